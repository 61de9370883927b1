import PyProof.Rows.All
import Wide.All
import OpenK.AllK
import KE.KTops
import Wide.FinOn
import PySem.Challenge.RW_ph0117_01
set_option linter.all false
set_option Elab.async false
set_option genSizeOf false
set_option genSizeOfSpec false
set_option genInjectivity false

noncomputable section
open PySem PyProof.Rows
set_option Elab.async false
set_option linter.all false
namespace Mine

/- plain values -/
inductive PV where
  | none
  | bool (b : Bool)
  | int (i : Int)
  | str (s : Str)
  | tup (l : List PV)
  | lst (l : List PV)
  | dct (l : List (PyData × PyData))

noncomputable abbrev LObj (vs : List Value) (n : Nat) : Obj := { cls := .type "list", dict := .none, data := .seq vs.toArray n, slots := #[] }
noncomputable abbrev TObj (vs : List Value) (n : Nat) : Obj := { cls := .type "tuple", dict := .none, data := .seq vs.toArray n, slots := #[] }

mutual
inductive Rep (prog : Program) (w : World) (W : Addr → Prop) (h : Heap) : Value → PV → Prop
  | none : Rep prog w W h .none .none
  | bool (b : Bool) : Rep prog w W h (.bool b) (.bool b)
  | int (i : Int) (t : Tok) : Rep prog w W h (.int i t) (.int i)
  | str (x : Str) (t : Tok) : Rep prog w W h (.str x t) (.str x)
  | tup {a : Addr} {n : Nat} {vs : List Value} {ds : List PV} : ¬ W a → h.get? a = some (TObj vs n) → Reps prog w W h vs ds → Rep prog w W h (.ref a) (.tup ds)
  | lst {a : Addr} {n : Nat} {vs : List Value} {ds : List PV} : ¬ W a → h.get? a = some (LObj vs n) → Reps prog w W h vs ds → Rep prog w W h (.ref a) (.lst ds)
  | dct {a : Addr} {D : List (PyData × PyData)} : ¬ W a → StrTab prog w h a D → Rep prog w W h (.ref a) (.dct D)
inductive Reps (prog : Program) (w : World) (W : Addr → Prop) (h : Heap) : List Value → List PV → Prop
  | nil : Reps prog w W h [] []
  | cons {v : Value} {d : PV} {vs : List Value} {ds : List PV} : Rep prog w W h v d → Reps prog w W h vs ds → Reps prog w W h (v :: vs) (d :: ds)
end

section
variable {prog : Program} {w : World}

theorem strTab_at {h h' : Heap} {a : Addr} {D : List (PyData × PyData)} (T : StrTab prog w h a D) (hk : ∀ o, h.get? a = some o → h'.get? a = some o) : StrTab prog w h' a D := by
  obtain ⟨lo, kvs, hd, hf⟩ := T
  exact ⟨lo, kvs, hd.at hk, hf⟩

theorem strTab_lt {h : Heap} {a : Addr} {D : List (PyData × PyData)} (T : StrTab prog w h a D) : ∃ o, h.get? a = some o := by
  obtain ⟨lo, kvs, hd, hf⟩ := T
  obtain ⟨o, ho, _⟩ := Heap.dictOf_iff.mp hd
  exact ⟨o, ho⟩

-- the same tree, in another heap, keeping off other places
mutual
theorem Rep.conv {W W' : Addr → Prop} {h h' : Heap} (hk : ∀ a o, ¬ W a → h.get? a = some o → ¬ W' a ∧ h'.get? a = some o) : ∀ {v : Value} {d : PV}, Rep prog w W h v d → Rep prog w W' h' v d
  | _, _, .none => .none
  | _, _, .bool b => .bool b
  | _, _, .int i t => .int i t
  | _, _, .str x t => .str x t
  | _, _, .tup hw ho r => .tup (hk _ _ hw ho).1 (hk _ _ hw ho).2 (Reps.conv hk r)
  | _, _, .lst hw ho r => .lst (hk _ _ hw ho).1 (hk _ _ hw ho).2 (Reps.conv hk r)
  | _, _, .dct hw T => .dct (let ⟨_, ho⟩ := strTab_lt T; (hk _ _ hw ho).1) (strTab_at T (fun o e => (hk _ o hw e).2))
theorem Reps.conv {W W' : Addr → Prop} {h h' : Heap} (hk : ∀ a o, ¬ W a → h.get? a = some o → ¬ W' a ∧ h'.get? a = some o) : ∀ {vs : List Value} {ds : List PV}, Reps prog w W h vs ds → Reps prog w W' h' vs ds
  | _, _, .nil => .nil
  | _, _, .cons a r => .cons (Rep.conv hk a) (Reps.conv hk r)
end
theorem Rep.keep {W : Addr → Prop} {h h' : Heap} (hk : ∀ b o, ¬ W b → h.get? b = some o → h'.get? b = some o) {v : Value} {d : PV} (r : Rep prog w W h v d) : Rep prog w W h' v d := r.conv fun a o n e => ⟨n, hk a o n e⟩
theorem Reps.keep {W : Addr → Prop} {h h' : Heap} (hk : ∀ b o, ¬ W b → h.get? b = some o → h'.get? b = some o) {vs : List Value} {ds : List PV} (r : Reps prog w W h vs ds) : Reps prog w W h' vs ds := r.conv fun a o n e => ⟨n, hk a o n e⟩
-- another set of excluded places, if new ones lie above the heap
theorem Rep.widen {W W' : Addr → Prop} {h : Heap} (hw : ∀ a o, h.get? a = some o → W' a → W a) {v : Value} {d : PV} (r : Rep prog w W h v d) : Rep prog w W' h v d := r.conv fun a o n e => ⟨fun q => n (hw a o e q), e⟩
theorem Reps.widen {W W' : Addr → Prop} {h : Heap} (hw : ∀ a o, h.get? a = some o → W' a → W a) {vs : List Value} {ds : List PV} (r : Reps prog w W h vs ds) : Reps prog w W' h vs ds := r.conv fun a o n e => ⟨fun q => n (hw a o e q), e⟩

theorem Reps.cons_inv {W : Addr → Prop} {h : Heap} {vs : List Value} {d : PV} {ds : List PV} (r : Reps prog w W h vs (d :: ds)) : ∃ v ws, vs = v :: ws ∧ Rep prog w W h v d ∧ Reps prog w W h ws ds := by
  cases r with
  | cons a b => exact ⟨_, _, rfl, a, b⟩
theorem Reps.nil_inv {W : Addr → Prop} {h : Heap} {vs : List Value} (r : Reps prog w W h vs []) : vs = [] := by
  cases r; rfl
theorem Reps.length {W : Addr → Prop} {h : Heap} {ds : List PV} : ∀ {vs : List Value}, Reps prog w W h vs ds → vs.length = ds.length := by
  induction ds with
  | nil => intro vs r; rw [r.nil_inv]; rfl
  | cons d ds ih =>
    intro vs r
    obtain ⟨v, ws, e, _, q⟩ := r.cons_inv
    rw [e, List.length_cons, ih q, List.length_cons]
theorem Reps.append' {W : Addr → Prop} {h : Heap} {ds es : List PV} {ws : List Value} (r' : Reps prog w W h ws es) : ∀ {vs : List Value}, Reps prog w W h vs ds → Reps prog w W h (vs ++ ws) (ds ++ es) := by
  induction ds with
  | nil => intro vs r; rw [r.nil_inv]; exact r'
  | cons d ds ih =>
    intro vs r
    obtain ⟨v, us, e, a, q⟩ := r.cons_inv
    rw [e]; exact .cons a (ih q)
theorem Reps.append {W : Addr → Prop} {h : Heap} {vs ws : List Value} {ds es : List PV} (r : Reps prog w W h vs ds) (r' : Reps prog w W h ws es) : Reps prog w W h (vs ++ ws) (ds ++ es) := Reps.append' r' r
theorem Reps.get {W : Addr → Prop} {h : Heap} {ds : List PV} : ∀ {vs : List Value}, Reps prog w W h vs ds → ∀ {i : Nat} {d : PV}, ds[i]? = some d → ∃ v, vs[i]? = some v ∧ Rep prog w W h v d := by
  induction ds with
  | nil => intro vs r i d e; cases e
  | cons d ds ih =>
    intro vs r i d' e
    obtain ⟨v, us, e', a, q⟩ := r.cons_inv
    rw [e']
    cases i with
    | zero => exact ⟨v, rfl, Option.some.inj e ▸ a⟩
    | succ i => exact ih q e
theorem Reps.set {W : Addr → Prop} {h : Heap} {ds : List PV} {u : Value} {d' : PV} (b : Rep prog w W h u d') : ∀ {vs : List Value}, Reps prog w W h vs ds → ∀ i, Reps prog w W h (vs.set i u) (ds.set i d') := by
  induction ds with
  | nil => intro vs r i; rw [r.nil_inv]; exact .nil
  | cons d ds ih =>
    intro vs r i
    obtain ⟨v, us, e', a, q⟩ := r.cons_inv
    rw [e']
    cases i with
    | zero => exact .cons b q
    | succ i => exact .cons a (ih q i)
theorem Reps.eraseIdx {W : Addr → Prop} {h : Heap} {ds : List PV} : ∀ {vs : List Value}, Reps prog w W h vs ds → ∀ i, Reps prog w W h (vs.eraseIdx i) (ds.eraseIdx i) := by
  induction ds with
  | nil => intro vs r i; rw [r.nil_inv]; exact .nil
  | cons d ds ih =>
    intro vs r i
    obtain ⟨v, us, e', a, q⟩ := r.cons_inv
    rw [e']
    cases i with
    | zero => exact q
    | succ i => exact .cons a (ih q i)
theorem Reps.replicate {W : Addr → Prop} {h : Heap} {v : Value} {d : PV} (a : Rep prog w W h v d) : ∀ k, Reps prog w W h (List.replicate k v) (List.replicate k d)
  | 0 => .nil
  | k + 1 => .cons a (Reps.replicate a k)
end

theorem opt_or {α : Type} (x : Option α) : x = Option.none ∨ ∃ d, x = some d := by
  cases x with
  | none => exact .inl rfl
  | some d => exact .inr ⟨d, rfl⟩
theorem drop_at {α : Type} {ds : List α} {i : Nat} {d : α} (h : ds[i]? = some d) : i < ds.length ∧ ds.drop i = d :: ds.drop (i + 1) := by
  obtain ⟨hlt, e⟩ := List.getElem?_eq_some_iff.mp h
  exact ⟨hlt, by rw [List.drop_eq_getElem_cons hlt, e]⟩
theorem drop_end {α : Type} {ds : List α} {i : Nat} (hi : i ≤ ds.length) (h : ds[i]? = Option.none) : i = ds.length := Nat.le_antisymm hi (List.getElem?_eq_none_iff.mp h)

/- what an expression may do: all that stood stands -/
structure Ext (s s' : Shared) : Prop where
  keep : ∀ b o, s.heap.get? b = some o → s'.heap.get? b = some o
  gens : ∀ (i : Nat) (x : GenState), s.gens[i]? = some x → s'.gens[i]? = some x
  bare : AllBare s.gens → AllBare s'.gens
  os : s'.os = s.os

theorem Ext.refl (s : Shared) : Ext s s := ⟨fun _ _ e => e, fun _ _ e => e, id, rfl⟩
theorem Ext.trans {s s' s'' : Shared} (x : Ext s s') (y : Ext s' s'') : Ext s s'' :=
  ⟨fun b o e => y.keep b o (x.keep b o e), fun i g e => y.gens i g (x.gens i g e), fun b => y.bare (x.bare b), y.os.trans x.os⟩
theorem Ext.toks {s s' : Shared} (x : Ext s s') (t : Nat) : Ext s { s' with toks := t } := ⟨x.keep, x.gens, x.bare, x.os⟩
theorem Ext.tok (s : Shared) (t : Nat) : Ext s { s with toks := t } := (Ext.refl s).toks t
theorem Ext.push (s : Shared) (o : Obj) : Ext s { s with heap := s.heap.push o } :=
  ⟨fun _ _ e => Heap.get?_push_of_some _ e, fun _ _ e => e, id, rfl⟩
theorem Ext.back {s s' : Shared} (x : Ext s s') {b : Addr} (h : s'.heap.get? b = Option.none) : s.heap.get? b = Option.none := by
  rcases opt_or (s.heap.get? b) with e | ⟨o, e⟩
  · exact e
  · rw [x.keep _ _ e] at h; cases h
theorem Ext.backG {s s' : Shared} (x : Ext s s') {i : Nat} (h : s'.gens[i]? = Option.none) : s.gens[i]? = Option.none := by
  rcases opt_or (s.gens[i]?) with e | ⟨o, e⟩
  · exact e
  · rw [x.gens _ _ e] at h; cases h
theorem get_size (h : Heap) : h.get? h.objs.size = none := by
  cases e : h.get? h.objs.size with
  | none => rfl
  | some o => exact absurd (Heap.lt_size e) (Nat.lt_irrefl _)

section
variable {prog : Program} {w : World}
theorem Rep.ext {W : Addr → Prop} {s s' : Shared} {v : Value} {d : PV} (r : Rep prog w W s.heap v d) (x : Ext s s') : Rep prog w W s'.heap v d := r.keep fun b o _ e => x.keep b o e
theorem Reps.ext {W : Addr → Prop} {s s' : Shared} {vs : List Value} {ds : List PV} (r : Reps prog w W s.heap vs ds) (x : Ext s s') : Reps prog w W s'.heap vs ds := r.keep fun b o _ e => x.keep b o e
end

end Mine
end

noncomputable section
open PySem PyProof.Rows
set_option Elab.async false
set_option linter.all false
namespace Mine

/- what is fixed: the program, the world, the two tables of names, the defs, the table of signs -/
structure Glo where
  prog : Program
  w : World
  mg : Str → Option Value
  mb : Str → Option Value
  fns : List (Str × (Arguments × List Stmt × Scope))
  tok : List (PyData × PyData)

noncomputable abbrev Glo.M (G : Glo) : Model := model G.prog G.w
noncomputable abbrev GRep (G : Glo) := Rep G.prog G.w
noncomputable abbrev GReps (G : Glo) := Reps G.prog G.w

structure Base (G : Glo) (h : Heap) : Prop where
  g : h.Ns mainGlobals G.mg
  b : h.Ns builtinsNs G.mb
  nolimit : h.NoLimit
  fn : ∀ nm x, G.fns.lookup nm = some x → ∃ a o pm cd doc, G.mg nm = some (.ref a) ∧ h.get? a = some o ∧ o.data = .func (Calls.docDef nm x.1 x.2.1 x.2.2 pm cd doc) ∧ h.CodeRec cd nm
  tok : ∃ a, G.mg "EXACT_TOKEN_TYPES" = some (.ref a) ∧ StrTab G.prog G.w h a G.tok
  blt : ∀ nm ∈ (["len", "sum", "range", "enumerate"] : List Str), G.mg nm = none
  len : G.mb "len" = some (.builtin "len")
  sum : G.mb "sum" = some (.builtin "sum")
  range : G.mb "range" = some (.type "range")
  enumerate : G.mb "enumerate" = some (.type "enumerate")

theorem Base.keeps {G : Glo} {h h' : Heap} (B : Base G h) (hk : ∀ b o, h.get? b = some o → h'.get? b = some o) : Base G h' where
  g := B.g.keeps hk
  b := B.b.keeps hk
  nolimit := let ⟨mc, a, b⟩ := B.nolimit; ⟨mc, a.keeps hk, b⟩
  fn := fun nm x e => let ⟨a, o, pm, cd, doc, h1, h2, h3, h4⟩ := B.fn nm x e; ⟨a, o, pm, cd, doc, h1, hk _ _ h2, h3, h4.keeps hk⟩
  tok := let ⟨a, h1, h2⟩ := B.tok; ⟨a, h1, strTab_at h2 fun o e => hk _ o e⟩
  blt := B.blt
  len := B.len
  sum := B.sum
  range := B.range
  enumerate := B.enumerate

structure Room (k : Nat) (A : Around) : Prop where
  hd : A.handled = none
  depth : A.depth + k < recursionLimit
  units : A.units + 8 * k + 8 < cLine

theorem Room.mono {k k' : Nat} {A : Around} (R : Room k A) (h : k' ≤ k) : Room k' A := ⟨R.hd, by have := R.depth; (first | lia | omega), by have := R.units; (first | lia | omega)⟩
theorem Room.deeper {k : Nat} {A : Around} (R : Room (k + 1) A) (env : Env) : Room k (A.deeper env) :=
  ⟨R.hd, by have := R.depth; show A.depth + 1 + k < _; (first | lia | omega), by have := R.units; show A.units + 3 + 8 * k + 8 < _; (first | lia | omega)⟩
theorem Room.in1 {k : Nat} {A : Around} (R : Room (k + 1) A) : Room k A.in1 :=
  ⟨R.hd, by have := R.depth; show A.depth + k < _; (first | lia | omega), by have := R.units; show A.units + 1 + 8 * k + 8 < _; (first | lia | omega)⟩

noncomputable abbrev Sig := List (Str × PV)

/- the value of a name: the one mutable list of the frame, or a tree that keeps off W -/
noncomputable def Val (G : Glo) (W : Addr → Prop) (mv : Option Str) (mr : Option Addr) (h : Heap) (x : Str) (v : Value) (d : PV) : Prop :=
  (mv ≠ some x ∧ GRep G W h v d) ∨
  (mv = some x ∧ ∃ r vs ds n, mr = some r ∧ v = .ref r ∧ d = .lst ds ∧ h.get? r = some (LObj vs n) ∧ GReps G W h vs ds)

/- a value that may be the mutable list itself -/
noncomputable def RepT (G : Glo) (W : Addr → Prop) (mr : Option Addr) (h : Heap) (v : Value) (d : PV) : Prop :=
  GRep G W h v d ∨ ∃ r vs ds n, mr = some r ∧ v = .ref r ∧ d = .lst ds ∧ h.get? r = some (LObj vs n) ∧ GReps G W h vs ds

structure Frame (G : Glo) (s₀ : Shared) (env : Env) (W : Addr → Prop) (mv : Option Str) (mr : Option Addr) (σ : Sig) (s : Shared) : Prop where
  base₀ : Base G s₀.heap
  ext : Ext s₀ s
  bare : AllBare s.gens
  fk : env.scope.kind = .function
  gl : env.globals = mainGlobals
  bl : env.builtins = builtinsNs
  low : ∀ a, W a → ∃ o, s.heap.get? a = some o
  wl : W env.locals
  wc : ∀ x c, env.cells.lookup x = some c → W c
  hi : s₀.heap.get? env.locals = none
  ns : ∃ m, s.heap.Ns env.locals m ∧ ∀ x d, σ.lookup x = some d → env.kindOf x = some .local → ∃ v, m x = some v ∧ Val G W mv mr s.heap x v d
  cl : ∀ x c, env.cells.lookup x = some c → ∃ ov, s.heap.IsCell c ov ∧ ∀ d, σ.lookup x = some d → env.kindOf x = some .cell → ∃ v, ov = some v ∧ Val G W mv mr s.heap x v d
  kd : ∀ x d, σ.lookup x = some d → env.kindOf x = some .local ∨ (env.kindOf x = some .cell ∧ ∃ c, env.cells.lookup x = some c)
  apart : ∀ x y c, env.cells.lookup x = some c → env.cells.lookup y = some c → x = y
  mu : ∀ r, mr = some r → W r ∧ s₀.heap.get? r = none ∧ ∃ vs n, s.heap.get? r = some (LObj vs n)

section
variable {G : Glo} {s₀ : Shared} {env : Env} {W : Addr → Prop} {mv : Option Str} {mr : Option Addr} {σ : Sig} {s s' : Shared}

theorem Frame.base (F : Frame G s₀ env W mv mr σ s) : Base G s.heap := F.base₀.keeps F.ext.keep

theorem Val.keep {h h' : Heap} {x : Str} {v : Value} {d : PV} (hk : ∀ b o, ¬ W b → h.get? b = some o → h'.get? b = some o) (hm : ∀ r o, mr = some r → h.get? r = some o → h'.get? r = some o)
    (V : Val G W mv mr h x v d) : Val G W mv mr h' x v d := by
  rcases V with ⟨a, r⟩ | ⟨a, r, vs, ds, n, h1, h2, h3, h4, h5⟩
  · exact .inl ⟨a, r.keep hk⟩
  · exact .inr ⟨a, r, vs, ds, n, h1, h2, h3, hm _ _ h1 h4, h5.keep hk⟩

theorem Frame.more (F : Frame G s₀ env W mv mr σ s) (x : Ext s s') : Frame G s₀ env W mv mr σ s' where
  base₀ := F.base₀
  ext := F.ext.trans x
  bare := x.bare F.bare
  fk := F.fk
  gl := F.gl
  bl := F.bl
  low := fun a h => let ⟨o, e⟩ := F.low a h; ⟨o, x.keep a o e⟩
  wl := F.wl
  wc := F.wc
  hi := F.hi
  ns := by
    obtain ⟨m, hm, h⟩ := F.ns
    refine ⟨m, hm.keeps x.keep, fun y d e k => ?_⟩
    obtain ⟨v, h1, h2⟩ := h y d e k
    exact ⟨v, h1, h2.keep (fun b o _ e => x.keep b o e) (fun r o _ e => x.keep r o e)⟩
  cl := fun y c e => by
    obtain ⟨ov, h1, h2⟩ := F.cl y c e
    refine ⟨ov, h1.keeps x.keep, fun d e k => ?_⟩
    obtain ⟨v, h3, h4⟩ := h2 d e k
    exact ⟨v, h3, h4.keep (fun b o _ e => x.keep b o e) (fun r o _ e => x.keep r o e)⟩
  kd := F.kd
  apart := F.apart
  mu := fun r e => let ⟨h1, h2, vs, n, h3⟩ := F.mu r e; ⟨h1, h2, vs, n, x.keep _ _ h3⟩

theorem Val.repT {h : Heap} {x : Str} {v : Value} {d : PV} (V : Val G W mv mr h x v d) : RepT G W mr h v d := by
  rcases V with ⟨_, r⟩ | ⟨_, r⟩
  · exact .inl r
  · exact .inr r

/- reading a name of the frame -/
theorem Frame.load (F : Frame G s₀ env W mv mr σ s) {A : Around} {E : Value → Shared → Prop} {x : Str} {d : PV} {Q : Value → Shared → Prop} (hx : σ.lookup x = some d) (h : ∀ v, Val G W mv mr s.heap x v d → Q v s) :
    wpAny G.M A (loadName env x) Q E s := by
  rcases F.kd x d hx with k | ⟨k, c, hc⟩
  · obtain ⟨m, hm, h1⟩ := F.ns
    obtain ⟨v, hv, V⟩ := h1 x d hx k
    exact wpAny_loadName_local F.fk k hm hv (h v V)
  · obtain ⟨ov, h1, h2⟩ := F.cl x c hc
    obtain ⟨v, rfl, V⟩ := h2 d hx k
    exact wpAny_loadName_cell F.fk k hc h1 (h v V)

end

/- put into the plain map -/
noncomputable def put : Sig → Str → PV → Sig
  | [], x, d => [(x, d)]
  | (y, e) :: r, x, d => if x = y then (x, d) :: r else (y, e) :: put r x d

theorem put_lookup : ∀ (σ : Sig) (x : Str) (d : PV) (y : Str), (put σ x d).lookup y = if y = x then some d else σ.lookup y
  | [], x, d, y => by
    by_cases h : y = x
    · subst h; simp [put, List.lookup]
    · have : (y == x) = false := by simpa using h
      simp [put, List.lookup, this, h]
  | (z, e) :: r, x, d, y => by
    by_cases hxz : x = z
    · subst hxz
      by_cases h : y = x
      · subst h; simp [put, List.lookup]
      · have : (y == x) = false := by simpa using h
        simp [put, List.lookup, this, h]
    · by_cases h : y = z
      · subst h
        have hne : ¬ y = x := fun e => hxz e.symm
        simp [put, hxz, List.lookup, hne]
      · have : (y == z) = false := by simpa using h
        simp [put, hxz, List.lookup, this, put_lookup r x d y]

end Mine
end

noncomputable section
open PySem PyProof.Rows
set_option Elab.async false
set_option linter.all false
namespace Mine

/- what a statement may do: all that stood stands, but the frame's own -/
structure ExtS (O : Addr → Prop) (s s' : Shared) : Prop where
  keep : ∀ b o, ¬ O b → s.heap.get? b = some o → s'.heap.get? b = some o
  gens : ∀ (i : Nat) (x : GenState), s.gens[i]? = some x → s'.gens[i]? = some x
  bare : AllBare s.gens → AllBare s'.gens
  os : s'.os = s.os

theorem Ext.toS {s s' : Shared} (x : Ext s s') (O : Addr → Prop) : ExtS O s s' := ⟨fun b o _ e => x.keep b o e, x.gens, x.bare, x.os⟩
theorem ExtS.refl (O : Addr → Prop) (s : Shared) : ExtS O s s := (Ext.refl s).toS O
theorem ExtS.trans {O : Addr → Prop} {s s' s'' : Shared} (x : ExtS O s s') (y : ExtS O s' s'') : ExtS O s s'' :=
  ⟨fun b o h e => y.keep b o h (x.keep b o h e), fun i g e => y.gens i g (x.gens i g e), fun b => y.bare (x.bare b), y.os.trans x.os⟩
theorem ExtS.mono {O O' : Addr → Prop} {s s' : Shared} (x : ExtS O s s') (h : ∀ b, O b → O' b) : ExtS O' s s' := ⟨fun b o hb e => x.keep b o (fun q => hb (h b q)) e, x.gens, x.bare, x.os⟩

noncomputable def Own (env : Env) (mr : Option Addr) (b : Addr) : Prop := b = env.locals ∨ (∃ x, env.cells.lookup x = some b) ∨ mr = some b

theorem Own.up {env : Env} {mr : Option Addr} {b : Addr} (h : Own env none b) : Own env mr b := by
  rcases h with h | h | h
  · exact .inl h
  · exact .inr (.inl h)
  · cases h

section
variable {G : Glo} {s₀ : Shared} {env : Env} {W : Addr → Prop} {mv mv' : Option Str} {mr mr' : Option Addr} {σ : Sig} {s s' : Shared}

theorem get_ne_of_data {h : Heap} {a b : Addr} {o o' : Obj} (ha : h.get? a = some o) (hb : h.get? b = some o') (hd : o.data ≠ o'.data) : a ≠ b := by
  rintro rfl
  rw [ha] at hb
  cases hb
  exact hd rfl

theorem ne_of_get {h : Heap} {a b : Addr} {o : Obj} (e : h.get? a = some o) (hb : h.get? b = none) : a ≠ b := by
  rintro rfl
  rw [e] at hb; cases hb

theorem Frame.mu_ne_locals (F : Frame G s₀ env W mv mr σ s) {r : Addr} {vs : List Value} {n : Nat} (h3 : s.heap.get? r = some (LObj vs n)) : r ≠ env.locals := by
  obtain ⟨m, ⟨o, es, ep, ho, hd, _⟩, _⟩ := F.ns
  exact get_ne_of_data h3 ho (by rw [hd]; nofun)
theorem Frame.mu_ne_cell (F : Frame G s₀ env W mv mr σ s) {r : Addr} {vs : List Value} {n : Nat} (h3 : s.heap.get? r = some (LObj vs n)) {x : Str} {c : Addr} (hc : env.cells.lookup x = some c) : r ≠ c := by
  obtain ⟨ov, ⟨o, ho, hd⟩, _⟩ := F.cl x c hc
  exact get_ne_of_data h3 ho (by rw [hd]; nofun)
theorem Frame.cell_ne_locals (F : Frame G s₀ env W mv mr σ s) {x : Str} {c : Addr} (hc : env.cells.lookup x = some c) : c ≠ env.locals := by
  obtain ⟨ov, ⟨o, ho, hd⟩, _⟩ := F.cl x c hc
  obtain ⟨m, ⟨o', es, ep, ho', hd', _⟩, _⟩ := F.ns
  exact get_ne_of_data ho ho' (by rw [hd, hd']; nofun)

/- storing a name -/
theorem Frame.storeG (F : Frame G s₀ env W mv mr σ s) {A : Around} {E : Value → Shared → Prop} {x : Str} {v : Value} {d : PV} {Q : Unit → Shared → Prop}
    (hk : env.kindOf x = some .local ∨ (env.kindOf x = some .cell ∧ ∃ c, env.cells.lookup x = some c ∧ s₀.heap.get? c = none))
    (hv : Val G W mv' mr' s.heap x v d) (hother : ∀ y u e, y ≠ x → Val G W mv mr s.heap y u e → Val G W mv' mr' s.heap y u e)
    (hmu : ∀ r, mr' = some r → W r ∧ s₀.heap.get? r = none ∧ ∃ vs n, s.heap.get? r = some (LObj vs n))
    (h : ∀ s', Frame G s₀ env W mv' mr' (put σ x d) s' → ExtS (Own env none) s s' → Q () s') :
    wpAny G.M A (storeName env x v) Q E s := by
  have hmr : ∀ r, mr' = some r → r ≠ env.locals ∧ ∀ y c, env.cells.lookup y = some c → r ≠ c := fun r e => by
    obtain ⟨_, _, vs, n, h3⟩ := hmu r e
    exact ⟨F.mu_ne_locals h3, fun y c hc => F.mu_ne_cell h3 hc⟩
  rcases hk with hk | ⟨hk, c, hc, hcn⟩
  · obtain ⟨m, hm, hval⟩ := F.ns
    refine wpAny_storeName_local hk hm (fun h' hn hs => ?_) (by rw [F.fk]; rfl)
    have up : ∀ b o, ¬ W b → s.heap.get? b = some o → h'.get? b = some o := fun b o hb e => (hs.2 b (fun q => hb (q ▸ F.wl))).trans e
    have upm : ∀ r o, mr' = some r → s.heap.get? r = some o → h'.get? r = some o := fun r o e q => (hs.2 r (hmr r e).1).trans q
    have upc : ∀ y c, env.cells.lookup y = some c → h'.get? c = s.heap.get? c := fun y c e => hs.2 c (F.cell_ne_locals e)
    have hE : ExtS (Own env none) s { s with heap := h', toks := s.toks + 1 } :=
      ⟨fun b o hb e => (hs.2 b (fun q => hb (.inl q))).trans e, fun _ _ e => e, id, rfl⟩
    refine h _ ?_ hE
    refine { base₀ := F.base₀, ext := ?_, bare := F.bare, fk := F.fk, gl := F.gl, bl := F.bl, low := ?_, wl := F.wl, wc := F.wc, hi := F.hi, ns := ?_, cl := ?_, kd := ?_, apart := F.apart, mu := ?_ }
    · exact ⟨fun b o e => (hs.2 b (ne_of_get e F.hi)).trans (F.ext.keep b o e), F.ext.gens, F.ext.bare, F.ext.os⟩
    · intro a ha
      by_cases q : a = env.locals
      · subst q; obtain ⟨o, _, _, ho, _⟩ := hn; exact ⟨o, ho⟩
      · obtain ⟨o, e⟩ := F.low a ha; exact ⟨o, (hs.2 a q).trans e⟩
    · refine ⟨_, hn, fun y e hy hky => ?_⟩
      rw [put_lookup] at hy
      by_cases hyx : y = x
      · subst hyx
        simp only [if_true] at hy ⊢
        cases hy
        exact ⟨v, rfl, hv.keep up upm⟩
      · simp only [hyx, if_false] at hy ⊢
        obtain ⟨u, h1, h2⟩ := hval y e hy hky
        exact ⟨u, h1, (hother y u e hyx h2).keep up upm⟩
    · intro y c e
      obtain ⟨ov, ⟨o, ho, hd⟩, h2⟩ := F.cl y c e
      refine ⟨ov, ⟨o, (upc y c e).trans ho, hd⟩, fun e' hy hky => ?_⟩
      rw [put_lookup] at hy
      have hyx : y ≠ x := by rintro rfl; rw [hk] at hky; cases hky
      simp only [hyx, if_false] at hy
      obtain ⟨u, h3, h4⟩ := h2 e' hy hky
      exact ⟨u, h3, (hother y u e' hyx h4).keep up upm⟩
    · intro y e hy
      rw [put_lookup] at hy
      by_cases hyx : y = x
      · subst hyx; exact .inl hk
      · simp only [hyx, if_false] at hy; exact F.kd y e hy
    · intro r e
      obtain ⟨h1, h2, vs, n, h3⟩ := hmu r e
      exact ⟨h1, h2, vs, n, upm r _ e h3⟩
  · obtain ⟨ov, hcell, hcv⟩ := F.cl x c hc
    refine wpAny_storeName_cell F.fk hk hc hcell fun h' hcell' hs => ?_
    have up : ∀ b o, ¬ W b → s.heap.get? b = some o → h'.get? b = some o := fun b o hb e => (hs.2 b (fun q => hb (q ▸ F.wc x c hc))).trans e
    have upm : ∀ r o, mr' = some r → s.heap.get? r = some o → h'.get? r = some o := fun r o e q => (hs.2 r ((hmr r e).2 x c hc)).trans q
    have hE : ExtS (Own env none) s { s with heap := h' } :=
      ⟨fun b o hb e => (hs.2 b (fun q => hb (.inr (.inl ⟨x, q ▸ hc⟩)))).trans e, fun _ _ e => e, id, rfl⟩
    refine h _ ?_ hE
    refine { base₀ := F.base₀, ext := ?_, bare := F.bare, fk := F.fk, gl := F.gl, bl := F.bl, low := ?_, wl := F.wl, wc := F.wc, hi := F.hi, ns := ?_, cl := ?_, kd := ?_, apart := F.apart, mu := ?_ }
    · exact ⟨fun b o e => (hs.2 b (ne_of_get e hcn)).trans (F.ext.keep b o e), F.ext.gens, F.ext.bare, F.ext.os⟩
    · intro a ha
      by_cases q : a = c
      · subst q; obtain ⟨o, ho, _⟩ := hcell'; exact ⟨o, ho⟩
      · obtain ⟨o, e⟩ := F.low a ha; exact ⟨o, (hs.2 a q).trans e⟩
    · obtain ⟨m, hm, hval⟩ := F.ns
      refine ⟨m, hm.sameBut hs (Ne.symm (F.cell_ne_locals hc)), fun y e hy hky => ?_⟩
      rw [put_lookup] at hy
      have hyx : y ≠ x := by rintro rfl; rw [hk] at hky; cases hky
      simp only [hyx, if_false] at hy
      obtain ⟨u, h1, h2⟩ := hval y e hy hky
      exact ⟨u, h1, (hother y u e hyx h2).keep up upm⟩
    · intro y c' e
      by_cases hyx : y = x
      · subst hyx
        rw [hc] at e; cases e
        refine ⟨some v, hcell', fun e' hy hky => ?_⟩
        rw [put_lookup] at hy
        simp only [if_true] at hy
        cases hy
        exact ⟨v, rfl, hv.keep up upm⟩
      · have hcc : c' ≠ c := fun q => hyx (F.apart y x c' e (q ▸ hc))
        obtain ⟨ov', ⟨o, ho, hd⟩, h2⟩ := F.cl y c' e
        refine ⟨ov', ⟨o, (hs.2 c' hcc).trans ho, hd⟩, fun e' hy hky => ?_⟩
        rw [put_lookup] at hy
        simp only [hyx, if_false] at hy
        obtain ⟨u, h3, h4⟩ := h2 e' hy hky
        exact ⟨u, h3, (hother y u e' hyx h4).keep up upm⟩
    · intro y e hy
      rw [put_lookup] at hy
      by_cases hyx : y = x
      · subst hyx; exact .inr ⟨hk, c, hc⟩
      · simp only [hyx, if_false] at hy; exact F.kd y e hy
    · intro r e
      obtain ⟨h1, h2, vs, n, h3⟩ := hmu r e
      exact ⟨h1, h2, vs, n, upm r _ e h3⟩

theorem Frame.store (F : Frame G s₀ env W mv mr σ s) {A : Around} {E : Value → Shared → Prop} {x : Str} {v : Value} {d : PV} {Q : Unit → Shared → Prop}
    (hk : env.kindOf x = some .local ∨ (env.kindOf x = some .cell ∧ ∃ c, env.cells.lookup x = some c ∧ s₀.heap.get? c = none))
    (hmv : mv ≠ some x) (hv : GRep G W s.heap v d)
    (h : ∀ s', Frame G s₀ env W mv mr (put σ x d) s' → ExtS (Own env none) s s' → Q () s') :
    wpAny G.M A (storeName env x v) Q E s :=
  F.storeG hk (.inl ⟨hmv, hv⟩) (fun _ _ _ _ V => V) F.mu h

/- a fresh place joins the excluded ones -/
theorem Frame.fresh (F : Frame G s₀ env W mv mr σ s) {s₁ : Shared} {r : Addr} (x : Ext s s₁) (hr : s.heap.get? r = none) (hr' : ∃ o, s₁.heap.get? r = some o) : Frame G s₀ env (fun a => W a ∨ a = r) mv mr σ s₁ := by
  have hw : ∀ a o, s.heap.get? a = some o → (W a ∨ a = r) → W a := fun a o ha h => h.elim id fun e => absurd e (ne_of_get ha hr)
  have V : ∀ {x v d}, Val G W mv mr s.heap x v d → Val G (fun a => W a ∨ a = r) mv mr s₁.heap x v d := by
    intro y v d V
    rcases V with ⟨a, q⟩ | ⟨a, r', vs, ds, n, h1, h2, h3, h4, h5⟩
    · exact .inl ⟨a, (q.widen hw).ext x⟩
    · exact .inr ⟨a, r', vs, ds, n, h1, h2, h3, x.keep _ _ h4, (h5.widen hw).ext x⟩
  refine { base₀ := F.base₀, ext := F.ext.trans x, bare := x.bare F.bare, fk := F.fk, gl := F.gl, bl := F.bl, low := ?_, wl := .inl F.wl, wc := fun y c e => .inl (F.wc y c e), hi := F.hi, ns := ?_, cl := ?_, kd := F.kd, apart := F.apart, mu := ?_ }
  · rintro a (h | rfl)
    · obtain ⟨o, e⟩ := F.low a h; exact ⟨o, x.keep a o e⟩
    · exact hr'
  · obtain ⟨m, hm, h⟩ := F.ns
    refine ⟨m, hm.keeps x.keep, fun y d e k => ?_⟩
    obtain ⟨v, h1, h2⟩ := h y d e k
    exact ⟨v, h1, V h2⟩
  · intro y c e
    obtain ⟨ov, h1, h2⟩ := F.cl y c e
    refine ⟨ov, h1.keeps x.keep, fun d e k => ?_⟩
    obtain ⟨v, h3, h4⟩ := h2 d e k
    exact ⟨v, h3, V h4⟩
  · intro q e
    obtain ⟨h1, h2, vs, n, h3⟩ := F.mu q e
    exact ⟨.inl h1, h2, vs, n, x.keep _ _ h3⟩

/- a change of the frame's own mutable list -/
theorem Frame.setMut (F : Frame G s₀ env W mv mr σ s) {x : Str} {r : Addr} {vs : List Value} {ds : List PV} {n : Nat} {s' : Shared} (hx : mv = some x) (hr : mr = some r)
    (hs : Heap.SameBut r s.heap s'.heap) (hn : s'.heap.get? r = some (LObj vs n)) (hR : GReps G W s.heap vs ds) (hxk : ∃ d, σ.lookup x = some d)
    (hg : s'.gens = s.gens) (ho : s'.os = s.os) :
    Frame G s₀ env W mv mr (put σ x (.lst ds)) s' ∧ ExtS (Own env mr) s s' := by
  obtain ⟨hWr, hr0, vs₀, n₀, hr1⟩ := F.mu r hr
  have up : ∀ b o, ¬ W b → s.heap.get? b = some o → s'.heap.get? b = some o := fun b o hb e => (hs.2 b (fun q => hb (q ▸ hWr))).trans e
  have hE : ExtS (Own env mr) s s' := ⟨fun b o hb e => (hs.2 b (fun q => hb (.inr (.inr (q ▸ hr))))).trans e, fun _ _ e => by rw [hg]; exact e, fun h => by rw [hg]; exact h, ho⟩
  have V : ∀ {y u d}, y ≠ x → Val G W mv mr s.heap y u d → Val G W mv mr s'.heap y u d := by
    intro y u d hy V
    rcases V with ⟨a, q⟩ | ⟨a, _⟩
    · exact .inl ⟨a, q.keep up⟩
    · rw [hx] at a; cases a; exact absurd rfl hy
  have Vx : Val G W mv mr s'.heap x (.ref r) (.lst ds) := .inr ⟨hx, r, vs, ds, n, hr, rfl, rfl, hn, hR.keep up⟩
  have refx : ∀ {u d}, Val G W mv mr s.heap x u d → u = .ref r := by
    intro u d V
    rcases V with ⟨a, _⟩ | ⟨_, r', _, _, _, h1, h2, _⟩
    · exact absurd hx a
    · rw [hr] at h1; cases h1; exact h2
  refine ⟨{ base₀ := F.base₀, ext := ?_, bare := hg ▸ F.bare, fk := F.fk, gl := F.gl, bl := F.bl, low := ?_, wl := F.wl, wc := F.wc, hi := F.hi, ns := ?_, cl := ?_, kd := ?_, apart := F.apart, mu := ?_ }, hE⟩
  · exact ⟨fun b o e => (hs.2 b (ne_of_get e hr0)).trans (F.ext.keep b o e), fun i g e => by rw [hg]; exact F.ext.gens i g e, fun h => by rw [hg]; exact F.ext.bare h, ho.trans F.ext.os⟩
  · intro a ha
    by_cases q : a = r
    · subst q; exact ⟨_, hn⟩
    · obtain ⟨o, e⟩ := F.low a ha; exact ⟨o, (hs.2 a q).trans e⟩
  · obtain ⟨m, hm, hval⟩ := F.ns
    refine ⟨m, hm.sameBut hs (Ne.symm (F.mu_ne_locals hr1)), fun y e hy hky => ?_⟩
    rw [put_lookup] at hy
    by_cases hyx : y = x
    · subst hyx
      simp only [if_true] at hy
      cases hy
      obtain ⟨d, hd⟩ := hxk
      obtain ⟨u, h1, h2⟩ := hval y d hd hky
      have := refx h2; subst this
      exact ⟨_, h1, Vx⟩
    · simp only [hyx, if_false] at hy
      obtain ⟨u, h1, h2⟩ := hval y e hy hky
      exact ⟨u, h1, V hyx h2⟩
  · intro y c e
    obtain ⟨ov, h1, h2⟩ := F.cl y c e
    refine ⟨ov, h1.sameBut hs (Ne.symm (F.mu_ne_cell hr1 e)), fun e' hy hky => ?_⟩
    rw [put_lookup] at hy
    by_cases hyx : y = x
    · subst hyx
      simp only [if_true] at hy
      cases hy
      obtain ⟨d, hd⟩ := hxk
      obtain ⟨u, h3, h4⟩ := h2 d hd hky
      have := refx h4; subst this
      exact ⟨_, h3, Vx⟩
    · simp only [hyx, if_false] at hy
      obtain ⟨u, h3, h4⟩ := h2 e' hy hky
      exact ⟨u, h3, V hyx h4⟩
  · intro y e hy
    rw [put_lookup] at hy
    by_cases hyx : y = x
    · subst hyx
      obtain ⟨d, hd⟩ := hxk
      exact F.kd y d hd
    · simp only [hyx, if_false] at hy; exact F.kd y e hy
  · intro q e
    rw [hr] at e; cases e
    exact ⟨hWr, hr0, vs, n, hn⟩
end

end Mine
end

noncomputable section
open PySem PyProof.Rows
set_option Elab.async false
set_option linter.all false
namespace Mine

/- the end of a plain expression -/
noncomputable def Post (G : Glo) (W : Addr → Prop) (d : PV) (s : Shared) : Value → Shared → Prop := fun v s' => Ext s s' ∧ GRep G W s'.heap v d
/- the same, where the value may be the mutable list -/
noncomputable def PostT (G : Glo) (W : Addr → Prop) (mr : Option Addr) (d : PV) (s : Shared) : Value → Shared → Prop := fun v s' => Ext s s' ∧ RepT G W mr s'.heap v d

noncomputable abbrev No : Value → Shared → Prop := fun _ _ => False

noncomputable abbrev Low (W : Addr → Prop) (s : Shared) : Prop := ∀ a, W a → ∃ o, s.heap.get? a = some o
theorem not_low {W : Addr → Prop} {s : Shared} (hlo : Low W s) : ¬ W s.heap.objs.size := fun h => by
  obtain ⟨o, e⟩ := hlo _ h
  rw [get_size] at e; cases e
theorem Low.ext {W : Addr → Prop} {s s' : Shared} (h : Low W s) (x : Ext s s') : Low W s' := fun a ha => let ⟨o, e⟩ := h a ha; ⟨o, x.keep a o e⟩

section
variable {G : Glo} {W : Addr → Prop} {mr : Option Addr} {A : Around} {E : Value → Shared → Prop} {s : Shared}

theorem post_val {v : Value} {d : PV} (r : ∀ h, GRep G W h v d) (t : Nat) : Post G W d s v { s with toks := t } := ⟨Ext.tok s t, r _⟩

theorem post_newList {vs : List Value} {ds : List PV} (hlo : Low W s) (r : GReps G W s.heap vs ds) (t : Nat) :
    Post G W (.lst ds) s (.ref s.heap.objs.size) { s with heap := s.heap.push (LObj vs 0), toks := t } := by
  have x : Ext s { s with heap := s.heap.push (LObj vs 0), toks := t } := (Ext.push s _).toks t
  exact ⟨x, .lst (not_low hlo) (Heap.get?_push_size _ rfl) (r.ext x)⟩
theorem post_newTuple {vs : List Value} {ds : List PV} (hlo : Low W s) (r : GReps G W s.heap vs ds) (t : Nat) :
    Post G W (.tup ds) s (.ref s.heap.objs.size) { s with heap := s.heap.push (TObj vs 0), toks := t } := by
  have x : Ext s { s with heap := s.heap.push (TObj vs 0), toks := t } := (Ext.push s _).toks t
  exact ⟨x, .tup (not_low hlo) (Heap.get?_push_size _ rfl) (r.ext x)⟩

/- a plain value, looked at -/
noncomputable def RepInv (G : Glo) (W : Addr → Prop) (h : Heap) (v : Value) : PV → Prop
  | .none => v = .none
  | .bool b => v = .bool b
  | .int i => ∃ t, v = .int i t
  | .str x => ∃ t, v = .str x t
  | .tup ds => ∃ a vs n, v = .ref a ∧ ¬ W a ∧ h.get? a = some (TObj vs n) ∧ GReps G W h vs ds
  | .lst ds => ∃ a vs n, v = .ref a ∧ ¬ W a ∧ h.get? a = some (LObj vs n) ∧ GReps G W h vs ds
  | .dct D => ∃ a, v = .ref a ∧ ¬ W a ∧ StrTab G.prog G.w h a D
theorem Rep.inv {h : Heap} {v : Value} {d : PV} (r : GRep G W h v d) : RepInv G W h v d := by
  cases r with
  | none => rfl
  | bool b => rfl
  | int i t => exact ⟨t, rfl⟩
  | str x t => exact ⟨t, rfl⟩
  | tup h1 h2 h3 => exact ⟨_, _, _, rfl, h1, h2, h3⟩
  | lst h1 h2 h3 => exact ⟨_, _, _, rfl, h1, h2, h3⟩
  | dct h1 h2 => exact ⟨_, rfl, h1, h2⟩
theorem rep_int {h : Heap} {v : Value} {i : Int} (r : GRep G W h v (.int i)) : ∃ t, v = .int i t := r.inv
theorem rep_str {h : Heap} {v : Value} {x : Str} (r : GRep G W h v (.str x)) : ∃ t, v = .str x t := r.inv
theorem rep_bool {h : Heap} {v : Value} {b : Bool} (r : GRep G W h v (.bool b)) : v = .bool b := r.inv
theorem rep_none {h : Heap} {v : Value} (r : GRep G W h v .none) : v = .none := r.inv
theorem rep_tup {h : Heap} {v : Value} {ds : List PV} (r : GRep G W h v (.tup ds)) : ∃ a vs n, v = .ref a ∧ ¬ W a ∧ h.get? a = some (TObj vs n) ∧ GReps G W h vs ds := r.inv
theorem rep_lst {h : Heap} {v : Value} {ds : List PV} (r : GRep G W h v (.lst ds)) : ∃ a vs n, v = .ref a ∧ ¬ W a ∧ h.get? a = some (LObj vs n) ∧ GReps G W h vs ds := r.inv
theorem rep_dct {h : Heap} {v : Value} {D : List (PyData × PyData)} (r : GRep G W h v (.dct D)) : ∃ a, v = .ref a ∧ ¬ W a ∧ StrTab G.prog G.w h a D := r.inv

/- a list, whether it is the mutable one or not -/
theorem RepT.list {h : Heap} {v : Value} {ds : List PV} (r : RepT G W mr h v (.lst ds)) : ∃ a vs n, v = .ref a ∧ h.get? a = some (LObj vs n) ∧ GReps G W h vs ds := by
  rcases r with r | ⟨a, vs, ds', n, _, hv, e, h1, h2⟩
  · obtain ⟨a, vs, n, h1, _, h2, h3⟩ := rep_lst r; exact ⟨a, vs, n, h1, h2, h3⟩
  · exact ⟨a, vs, n, hv, h1, (by injection e : ds = ds') ▸ h2⟩
theorem Rep.list {h : Heap} {v : Value} {ds : List PV} (r : GRep G W h v (.lst ds)) : ∃ a vs n, v = .ref a ∧ h.get? a = some (LObj vs n) ∧ GReps G W h vs ds := RepT.list (mr := Option.none) (.inl r)
theorem RepT.rep {h : Heap} {v : Value} {d : PV} (r : RepT G W mr h v d) (hd : ∀ ds, d ≠ .lst ds) : GRep G W h v d := by
  rcases r with r | ⟨_, _, ds', _, _, _, e, _, _⟩
  · exact r
  · exact absurd e (hd _)
theorem RepT.ext {s' : Shared} {v : Value} {d : PV} (r : RepT G W mr s.heap v d) (x : Ext s s') : RepT G W mr s'.heap v d := by
  rcases r with r | ⟨a, vs, ds', n, h0, h1, h2, h3, h4⟩
  · exact .inl (r.ext x)
  · exact .inr ⟨a, vs, ds', n, h0, h1, h2, x.keep _ _ h3, h4.ext x⟩

theorem lobj_list {h : Heap} {a : Addr} {vs : List Value} {n : Nat} (e : h.get? a = some (LObj vs n)) : h.IsList a vs.toArray := ⟨_, e, rfl, n, rfl⟩
theorem tobj_tuple {h : Heap} {a : Addr} {vs : List Value} {n : Nat} (e : h.get? a = some (TObj vs n)) : IsTup h a vs.toArray := ⟨_, e, rfl, n, rfl⟩

theorem concat_ok {v u : Value} {ds es : List PV} (hlo : Low W s) (r1 : RepT G W mr s.heap v (.lst ds)) (r2 : RepT G W mr s.heap u (.lst es))
    (hsz : ds.length + es.length ≤ sizeLine) : wpAny G.M A (binaryOp .Add v u) (Post G W (.lst (ds ++ es)) s) E s := by
  obtain ⟨l, vs, n, rfl, h1, q1⟩ := r1.list
  obtain ⟨b, ws, m, rfl, h2, q2⟩ := r2.list
  refine concat_meets ⟨_, h1, rfl⟩ ⟨_, h2, rfl⟩ noFill_list_add seq_list_add PySem.F.slot_list_add PySem.F.entry_list_add (PySem.F.args_list_add_2 _ _)
    (list_addW l b vs.toArray ws.toArray n m none none #[] #[] (by simpa [q1.length, q2.length] using hsz)) ⟨h1, h2, ?_⟩
  have e : vs.toArray ++ ws.toArray = (vs ++ ws).toArray := by simp
  rw [e]
  exact post_newList (vs := vs ++ ws) hlo (q1.append q2) s.toks


theorem foldl_append_one (v : Value) : ∀ (k : Nat) (acc : Array Value), List.foldl (fun x1 x2 => x1 ++ x2) acc (List.replicate k [v].toArray) = acc ++ (List.replicate k v).toArray
  | 0, acc => by simp
  | k + 1, acc => by
    rw [List.replicate_succ, List.foldl_cons, foldl_append_one v k, List.replicate_succ, Array.append_assoc]
    congr 1
    simp

theorem repeat_ok {v : Value} {d : PV} {n : Int} {u : Tok} (hlo : Low W s) (r : RepT G W mr s.heap v (.lst [d])) (h1 : -(2 ^ 20 : Int) ≤ n) (h2 : n ≤ 2 ^ 20) :
    wpAny G.M A (binaryOp .Mult v (.int n u)) (Post G W (.lst (List.replicate n.toNat d)) s) E s := by
  obtain ⟨l, vs, k, rfl, ho, q⟩ := r.list
  obtain ⟨v₁, ws, rfl, rv, q⟩ := q.cons_inv
  obtain rfl := q.nil_inv
  have hsz : (#[v₁] : Array Value).size = 1 := rfl
  refine wpAny_binaryOp_repeat_ref (T := "list") (U := "int") (by decide) ⟨_, ho, rfl⟩ (fun s' => typeIs_int s' n u) noFill_list_mul F.fills_int_mul F.slot_int_rmul repeat_list F.slot_int_index.lookup
    (call_meets F.slot_int_rmul (typeIs_int s n u) F.entry_int_rmul (F.args_int_rmul_2 _ _) (int___rmul___int_list n u l _ k)
      ⟨ho, rfl, ⟨_, ho, rfl⟩, call_meets F.slot_list_mul ⟨_, ho, rfl⟩ F.entry_list_mul (F.args_list_mul_2 _ _)
        (AutoListH.list___mul___list_int_3 l _ k n u (by simp [Builtin.List.listFitsIndex]; (first | lia | omega)) (by simp only [hsz]; (first | lia | omega)) (by simp only [hsz]; simp [Builtin.List.listTooLong, sizeLine]; (first | lia | omega)))
        ⟨ho, ?_⟩⟩)
  have e : List.foldl (fun x1 x2 => x1 ++ x2) #[] (List.replicate (if (#[v₁] : Array Value).isEmpty = true then 0 else n.toNat) #[v₁]) = (List.replicate n.toNat v₁).toArray := by
    have := foldl_append_one v₁ n.toNat #[]
    simpa using this
  show Post G W _ s _ _
  rw [e]
  exact post_newList hlo (Reps.replicate rv _) s.toks

/-! ## what a plain value is -/
noncomputable def asInt : PV → Option Int
  | .int i => some i
  | _ => .none
noncomputable def asStr : PV → Option Str
  | .str i => some i
  | _ => .none
noncomputable def asLst : PV → Option (List PV)
  | .lst i => some i
  | _ => .none
noncomputable def asTup : PV → Option (List PV)
  | .tup i => some i
  | _ => .none
noncomputable def asDct : PV → Option (List (PyData × PyData))
  | .dct i => some i
  | _ => .none
noncomputable def asBool : PV → Option Bool
  | .bool i => some i
  | _ => .none
noncomputable def asNone : PV → Option Unit
  | .none => some ()
  | _ => .none
theorem none_ne {α : Type} {x : α} {R : Prop} (h : (Option.none : Option α) = some x) : R := nomatch h
theorem asInt_eq {d : PV} {i : Int} (h : asInt d = some i) : d = .int i := by cases d <;> first | exact congrArg PV.int (Option.some.inj h) | exact none_ne h
theorem asStr_eq {d : PV} {i : Str} (h : asStr d = some i) : d = .str i := by cases d <;> first | exact congrArg PV.str (Option.some.inj h) | exact none_ne h
theorem asLst_eq {d : PV} {i : List PV} (h : asLst d = some i) : d = .lst i := by cases d <;> first | exact congrArg PV.lst (Option.some.inj h) | exact none_ne h
theorem asTup_eq {d : PV} {i : List PV} (h : asTup d = some i) : d = .tup i := by cases d <;> first | exact congrArg PV.tup (Option.some.inj h) | exact none_ne h
theorem asDct_eq {d : PV} {i : List (PyData × PyData)} (h : asDct d = some i) : d = .dct i := by cases d <;> first | exact congrArg PV.dct (Option.some.inj h) | exact none_ne h
theorem asBool_eq {d : PV} {i : Bool} (h : asBool d = some i) : d = .bool i := by cases d <;> first | exact congrArg PV.bool (Option.some.inj h) | exact none_ne h
theorem asNone_eq {d : PV} {i : Unit} (h : asNone d = some i) : d = .none := by cases d <;> first | rfl | exact none_ne h
noncomputable def op2 {α β γ : Type} (p : PV → Option α) (q : PV → Option β) (f : α → β → Option γ) (a b : PV) : Option γ := (p a).bind fun x => (q b).bind fun y => f x y
theorem op2_some {α β γ : Type} {p : PV → Option α} {q : PV → Option β} {f : α → β → Option γ} {a b : PV} {c : γ} (h : op2 p q f a b = some c) {R : Prop} (k : ∀ x y, p a = some x → q b = some y → f x y = some c → R) : R := by
  obtain ⟨x, h1, h⟩ := Option.bind_eq_some_iff.mp h
  obtain ⟨y, h2, h⟩ := Option.bind_eq_some_iff.mp h
  exact k x y h1 h2 h
theorem or_some {γ : Type} {x y : Option γ} {c : γ} (h : x.or y = some c) {R : Prop} (k1 : x = some c → R) (k2 : y = some c → R) : R := by
  cases x with
  | none => exact k2 h
  | some v => exact k1 h
theorem ite_some {γ : Type} {p : Prop} [Decidable p] {v c : γ} (h : (if p then some v else Option.none) = some c) {R : Prop} (k : p → v = c → R) : R := by
  by_cases q : p
  · rw [if_pos q] at h; exact k q (Option.some.inj h)
  · rw [if_neg q] at h; cases h

/- + - % // * as the text uses them -/
noncomputable def binop : Operator → PV → PV → Option PV
  | .Add, a, b => (op2 asInt asInt (fun x y => some (.int (x + y))) a b).or ((op2 asStr asStr (fun x y => if x.length + y.length ≤ 2 ^ 20 then some (.str (x ++ y)) else .none) a b).or
      (op2 asLst asLst (fun x y => if x.length + y.length ≤ 2 ^ 20 then some (.lst (x ++ y)) else .none) a b))
  | .Sub, a, b => op2 asInt asInt (fun x y => some (.int (x - y))) a b
  | .Mod, a, b => op2 asInt asInt (fun x y => if y = 0 then .none else some (.int (x.fmod y))) a b
  | .FloorDiv, a, b => op2 asInt asInt (fun x y => if y = 0 ∨ 1073741824 ≤ y.natAbs then .none else some (.int (x.fdiv y))) a b
  | .Mult, a, b => op2 asLst asInt (fun l n => match l with | [d] => (if -(2 ^ 20 : Int) ≤ n ∧ n ≤ 2 ^ 20 then some (.lst (List.replicate n.toNat d)) else .none) | _ => .none) a b
  | _, _, _ => .none

theorem sizeLine_big : 2 ^ 20 ≤ sizeLine := by decide

theorem repT_int {h : Heap} {v : Value} {i : Int} (r : RepT G W mr h v (.int i)) : ∃ t, v = .int i t := rep_int (r.rep nofun)
theorem repT_str {h : Heap} {v : Value} {i : Str} (r : RepT G W mr h v (.str i)) : ∃ t, v = .str i t := rep_str (r.rep nofun)
theorem binop_ok {op : Operator} {v u : Value} {a b d : PV} (hlo : Low W s) (r1 : RepT G W mr s.heap v a) (r2 : GRep G W s.heap u b) (h : binop op a b = some d) :
    wpAny G.M A (binaryOp op v u) (Post G W d s) E s := by
  cases op with
  | Add =>
    refine or_some h (fun h => op2_some h fun x y ha hb e => ?_) fun h => or_some h (fun h => op2_some h fun x y ha hb e => ite_some e fun hsz e => ?_) fun h => op2_some h fun x y ha hb e => ite_some e fun hsz e => ?_
    · rw [asInt_eq ha] at r1; rw [asInt_eq hb] at r2
      obtain ⟨t, rfl⟩ := repT_int r1; obtain ⟨t', rfl⟩ := rep_int r2
      cases e
      exact add_int (post_val (fun _ => .int _ _) _)
    · rw [asStr_eq ha] at r1; rw [asStr_eq hb] at r2
      obtain ⟨t, rfl⟩ := repT_str r1; obtain ⟨t', rfl⟩ := rep_str r2
      cases e
      exact PyProof.Rows.add_str (fun t' tk => post_val (fun _ => .str _ _) _) (Nat.le_trans hsz sizeLine_big)
    · rw [asLst_eq ha] at r1; rw [asLst_eq hb] at r2
      cases e
      exact concat_ok hlo r1 (.inl r2) (Nat.le_trans hsz sizeLine_big)
  | Sub =>
    refine op2_some h fun x y ha hb e => ?_
    rw [asInt_eq ha] at r1; rw [asInt_eq hb] at r2
    obtain ⟨t, rfl⟩ := repT_int r1; obtain ⟨t', rfl⟩ := rep_int r2
    cases e
    exact sub_int' (post_val (fun _ => .int _ _) _)
  | Mod =>
    refine op2_some h fun x y ha hb e => ?_
    rw [asInt_eq ha] at r1; rw [asInt_eq hb] at r2
    obtain ⟨t, rfl⟩ := repT_int r1; obtain ⟨t', rfl⟩ := rep_int r2
    by_cases hy : y = 0
    · rw [if_pos hy] at e; cases e
    · rw [if_neg hy] at e; cases e
      exact mod_int' hy (post_val (fun _ => .int _ _) _)
  | FloorDiv =>
    refine op2_some h fun x y ha hb e => ?_
    rw [asInt_eq ha] at r1; rw [asInt_eq hb] at r2
    obtain ⟨t, rfl⟩ := repT_int r1; obtain ⟨t', rfl⟩ := rep_int r2
    by_cases hy : y = 0 ∨ 1073741824 ≤ y.natAbs
    · rw [if_pos hy] at e; cases e
    · rw [if_neg hy] at e; cases e
      exact floordiv_int (fun q => hy (.inl q)) (post_val (fun _ => .int _ _) _) (.inl (PyProof.noPylong_small (Nat.lt_of_not_le fun q => hy (.inr q))))
  | Mult =>
    refine op2_some h fun l n ha hb e => ?_
    rw [asLst_eq ha] at r1; rw [asInt_eq hb] at r2
    obtain ⟨t', rfl⟩ := rep_int r2
    match l, e with
    | [x], e =>
      refine ite_some e fun hn e => ?_
      cases e
      exact repeat_ok hlo r1 hn.1 hn.2
  | _ => cases h
end
end Mine
end

noncomputable section
open PySem PyProof.Rows
set_option Elab.async false
set_option linter.all false
namespace Mine

/- == of two plain things -/
noncomputable def eqe (a b : PV) : Option Bool := (op2 asInt asInt (fun x y => some (x == y)) a b).or ((op2 asStr asStr (fun x y => some (x == y)) a b).or ((op2 asInt asStr (fun _ _ => some false) a b).or (op2 asStr asInt (fun _ _ => some false) a b)))
noncomputable def eqAll : List PV → List PV → Option Bool
  | [], [] => some true
  | a :: as, b :: bs => match eqe a b, eqAll as bs with
    | some x, some y => some (x && y)
    | _, _ => .none
  | _, _ => .none
noncomputable def pints : List PV → Option (List Int)
  | [] => some []
  | .int i :: r => (pints r).map (i :: ·)
  | _ :: _ => .none
noncomputable def pstrs : List PV → Option (List Str)
  | [] => some []
  | .str i :: r => (pstrs r).map (i :: ·)
  | _ :: _ => .none

noncomputable def cmpop : CmpOp → PV → PV → Option Bool
  | .Eq, a, b => (op2 asInt asInt (fun x y => some (x == y)) a b).or ((op2 asStr asStr (fun x y => some (x == y)) a b).or (op2 asNone asInt (fun _ _ => some false) a b))
  | .NotEq, a, b => (op2 asInt asInt (fun x y => some (x != y)) a b).or (op2 asLst asLst (fun x y => if x.length = y.length then (eqAll x y).map (!·) else some true) a b)
  | .Lt, a, b => op2 asInt asInt (fun x y => some (decide (x < y))) a b
  | .Gt, a, b => op2 asInt asInt (fun x y => some (decide (y < x))) a b
  | .GtE, a, b => op2 asInt asInt (fun x y => some (decide (y ≤ x))) a b
  | .Is, a, b => (op2 asNone asNone (fun _ _ => some true) a b).or (op2 asInt asNone (fun _ _ => some false) a b)
  | .IsNot, a, b => op2 asBool asBool (fun x y => some (x != y)) a b
  | .In, a, b => (op2 asStr asDct (fun x D => some (Spec.lookup (.str x) D).isSome) a b).or (op2 asInt asLst (fun x l => (pints l).map (·.contains x)) a b)
  | .NotIn, a, b => (op2 asInt asTup (fun x l => (pints l).map (!·.contains x)) a b).or (op2 asStr asStr (fun x y => some (!Txt.contains y x)) a b)
  | _, _, _ => .none

section
variable {G : Glo} {W : Addr → Prop} {mr : Option Addr} {A : Around} {E : Value → Shared → Prop} {s : Shared}

theorem ints_reps {h : Heap} : ∀ {vs : List Value} {ds : List PV} {ns : List Int}, GReps G W h vs ds → pints ds = some ns → IntsAre vs ns
  | _, _, _, .nil, e => by simp [pints] at e; subst e; exact .nil
  | _, _, _, .cons (d := d) r q, e => by
    cases r with
    | int i t =>
      simp only [pints, Option.map_eq_some_iff] at e
      obtain ⟨ms, e1, rfl⟩ := e
      exact .cons i t (ints_reps q e1)
    | _ => simp [pints] at e

theorem intsAre_any {x : Int} : ∀ {vs : List Value} {ns : List Int}, IntsAre vs ns → (vs.any (isInt x)) = ns.contains x
  | _, _, .nil => rfl
  | _, _, .cons i t h => by
    rw [List.any_cons, intsAre_any h, List.contains_cons]
    congr 1
    show (i == x) = (x == i)
    by_cases e : i = x
    · subst e; rfl
    · have : ¬ x = i := fun q => e q.symm
      rw [beq_eq_false_iff_ne.mpr e, beq_eq_false_iff_ne.mpr this]

theorem eqe_at {h : Heap} {v u : Value} {a b : PV} {c : Bool} (r1 : GRep G W h v a) (r2 : GRep G W h u b) (e : eqe a b = some c) (A : Around) (s : Shared) : SeqAt.EqAt A s v u c := by
  refine or_some e (fun e => op2_some e fun x y ha hb e => ?_) fun e => or_some e (fun e => op2_some e fun x y ha hb e => ?_) fun e => or_some e (fun e => op2_some e fun x y ha hb e => ?_) fun e => op2_some e fun x y ha hb e => ?_
  · rw [asInt_eq ha] at r1; rw [asInt_eq hb] at r2
    obtain ⟨t, rfl⟩ := rep_int r1; obtain ⟨t', rfl⟩ := rep_int r2; cases e; exact SeqAt.EqAt.int_int _ _ _ _
  · rw [asStr_eq ha] at r1; rw [asStr_eq hb] at r2
    obtain ⟨t, rfl⟩ := rep_str r1; obtain ⟨t', rfl⟩ := rep_str r2; cases e; exact SeqAt.EqAt.str_str _ _ _ _
  · rw [asInt_eq ha] at r1; rw [asStr_eq hb] at r2
    obtain ⟨t, rfl⟩ := rep_int r1; obtain ⟨t', rfl⟩ := rep_str r2; cases e; exact SeqAt.EqAt.int_str _ _ _ _
  · rw [asStr_eq ha] at r1; rw [asInt_eq hb] at r2
    obtain ⟨t, rfl⟩ := rep_str r1; obtain ⟨t', rfl⟩ := rep_int r2; cases e; exact SeqAt.EqAt.str_int _ _ _ _

theorem eqAll_all : ∀ {a b : List PV} {c : Bool}, eqAll a b = some c → a.length = b.length ∧ (∀ j, j < a.length → ∃ x y z, a[j]? = some x ∧ b[j]? = some y ∧ eqe x y = some z) ∧
    (List.range a.length).all (fun j => (match a[j]?, b[j]? with | some x, some y => (eqe x y).getD false | _, _ => false)) = c
  | [], [], c, e => by simp [eqAll] at e; subst e; simp
  | x :: a, y :: b, c, e => by
    simp only [eqAll] at e
    split at e
    · rename_i p q hp hq
      obtain ⟨h1, h2, h3⟩ := eqAll_all hq
      cases e
      refine ⟨by simp [h1], fun j hj => ?_, ?_⟩
      · cases j with
        | zero => exact ⟨x, y, p, rfl, rfl, hp⟩
        | succ j => simpa using h2 j (by simpa using hj)
      · rw [List.length_cons, List.range_succ_eq_map, List.all_cons, List.all_map]
        simp only [List.getElem?_cons_zero, hp, Option.getD_some]
        rw [← h3]
        congr 1
    · cases e
  | [], _ :: _, _, e => by simp [eqAll] at e
  | _ :: _, [], _, e => by simp [eqAll] at e

theorem ne_ok {v u : Value} {as bs : List PV} {c : Bool} (hu : A.units < cLine) (r1 : GRep G W s.heap v (.lst as)) (r2 : GRep G W s.heap u (.lst bs)) (h : (if as.length = bs.length then (eqAll as bs).map (!·) else some true) = some c) {Q : Value → Shared → Prop}
    (hQ : Q (.bool c) s) : wpAny G.M A (compareOp .NotEq v u) Q E s := by
  obtain ⟨l, vs, n, rfl, _, h1, q1⟩ := rep_lst r1
  obtain ⟨l', ws, m, rfl, _, h2, q2⟩ := rep_lst r2
  have e1 := q1.length
  have e2 := q2.length
  by_cases hlen : as.length = bs.length
  · rw [if_pos hlen] at h
    obtain ⟨y, hc, rfl⟩ := Option.map_eq_some_iff.mp h
    obtain ⟨_, e2', e3⟩ := eqAll_all hc
    have z := SeqAt.RcNeAt.lists (A := A) (s := s) (e := fun j => (match as[j]?, bs[j]? with | some x, some y => (eqe x y).getD false | _, _ => false)) (lobj_list h1) (lobj_list h2) (by rw [List.size_toArray, List.size_toArray, e1, e2, hlen]) hu (fun j j1 j2 => by
      have hj : j < as.length := by rw [List.size_toArray, e1] at j1; exact j1
      obtain ⟨x, y, z, hx, hy, hz⟩ := e2' j hj
      obtain ⟨v₁, hv, rv⟩ := q1.get hx
      obtain ⟨u₁, hu', ru⟩ := q2.get hy
      have ev : vs.toArray[j] = v₁ := Option.some.inj ((List.getElem?_eq_getElem j1).symm.trans hv)
      have eu : ws.toArray[j] = u₁ := Option.some.inj ((List.getElem?_eq_getElem j2).symm.trans hu')
      rw [ev, eu]
      simp only [hx, hy, hz, Option.getD_some]
      exact eqe_at rv ru hz _ _)
    rw [show vs.toArray.size = as.length by rw [List.size_toArray, e1], e3] at z
    exact z _ _ _ _ hQ
  · rw [if_neg hlen] at h
    cases h
    exact SeqAt.RcNeAt.lists_lengths (lobj_list h1) (lobj_list h2) (by rw [List.size_toArray, List.size_toArray, e1, e2]; exact bne_iff_ne.mpr hlen) hu _ _ _ _ hQ

theorem cmp_ok {op : CmpOp} {v u : Value} {a b : PV} {c : Bool} (hu : A.units < cLine) (r1 : GRep G W s.heap v a) (r2 : GRep G W s.heap u b) (h : cmpop op a b = some c) {Q : Value → Shared → Prop}
    (hQ : ∀ t, Q (.bool c) { s with toks := t }) : wpAny G.M A (compareOp op v u) Q E s := by
  have hQ0 : Q (.bool c) s := hQ s.toks
  have ii : ∀ {x y : Int}, asInt a = some x → asInt b = some y → (∃ t, v = .int x t) ∧ ∃ t, u = .int y t := fun ha hb => by
    rw [asInt_eq ha] at r1; rw [asInt_eq hb] at r2; exact ⟨rep_int r1, rep_int r2⟩
  have ss : ∀ {x y : Str}, asStr a = some x → asStr b = some y → (∃ t, v = .str x t) ∧ ∃ t, u = .str y t := fun ha hb => by
    rw [asStr_eq ha] at r1; rw [asStr_eq hb] at r2; exact ⟨rep_str r1, rep_str r2⟩
  cases op with
  | Eq =>
    refine or_some h (fun h => op2_some h fun x y ha hb e => ?_) fun h => or_some h (fun h => op2_some h fun x y ha hb e => ?_) fun h => op2_some h fun x y ha hb e => ?_
    · obtain ⟨⟨t, rfl⟩, t', rfl⟩ := ii ha hb; cases e; exact eq_int hQ0
    · obtain ⟨⟨t, rfl⟩, t', rfl⟩ := ss ha hb; cases e; exact eq_str hQ0
    · rw [asNone_eq ha] at r1; rw [asInt_eq hb] at r2
      obtain rfl := rep_none r1; obtain ⟨t', rfl⟩ := rep_int r2; cases e; exact EqNone.eq_none_int hQ0
  | NotEq =>
    refine or_some h (fun h => op2_some h fun x y ha hb e => ?_) fun h => op2_some h fun x y ha hb e => ?_
    · obtain ⟨⟨t, rfl⟩, t', rfl⟩ := ii ha hb; cases e; exact ne_int hQ0
    · rw [asLst_eq ha] at r1; rw [asLst_eq hb] at r2; exact ne_ok hu r1 r2 e hQ0
  | Lt => exact op2_some h fun x y ha hb e => by obtain ⟨⟨t, rfl⟩, t', rfl⟩ := ii ha hb; cases e; exact lt_int hQ0
  | Gt => exact op2_some h fun x y ha hb e => by obtain ⟨⟨t, rfl⟩, t', rfl⟩ := ii ha hb; cases e; exact gt_int hQ0
  | GtE => exact op2_some h fun x y ha hb e => by obtain ⟨⟨t, rfl⟩, t', rfl⟩ := ii ha hb; cases e; exact ge_int hQ0
  | Is =>
    refine or_some h (fun h => op2_some h fun x y ha hb e => ?_) fun h => op2_some h fun x y ha hb e => ?_
    · rw [asNone_eq ha] at r1; rw [asNone_eq hb] at r2
      obtain rfl := rep_none r1; obtain rfl := rep_none r2; cases e; exact is_none hQ0
    · rw [asInt_eq ha] at r1; rw [asNone_eq hb] at r2
      obtain ⟨t, rfl⟩ := rep_int r1; obtain rfl := rep_none r2; cases e; exact is_none hQ0
  | IsNot =>
    refine op2_some h fun x y ha hb e => ?_
    rw [asBool_eq ha] at r1; rw [asBool_eq hb] at r2
    obtain rfl := rep_bool r1; obtain rfl := rep_bool r2; cases e
    exact wpAny_isNot_plain rfl (by cases x <;> cases y <;> exact hQ0)
  | In =>
    refine or_some h (fun h => op2_some h fun x y ha hb e => ?_) fun h => op2_some h fun x y ha hb e => ?_
    · rw [asStr_eq ha] at r1; rw [asDct_eq hb] at r2
      obtain ⟨t, rfl⟩ := rep_str r1; obtain ⟨l, rfl, _, T⟩ := rep_dct r2
      cases e; exact in_strTab T (hQ _)
    · rw [asInt_eq ha] at r1; rw [asLst_eq hb] at r2
      obtain ⟨t, rfl⟩ := rep_int r1; obtain ⟨l', ws, m, rfl, _, h2, q2⟩ := rep_lst r2
      obtain ⟨ns, e1, rfl⟩ := Option.map_eq_some_iff.mp e
      have hi := ints_reps q2 e1
      refine SeqRoads2.in_list (isInt _) (fun y hy => eq_isInt _ t hi y (by simpa using hy)) h2 ?_
      rw [List.any_toArray, intsAre_any hi]; exact hQ0
  | NotIn =>
    refine or_some h (fun h => op2_some h fun x y ha hb e => ?_) fun h => op2_some h fun x y ha hb e => ?_
    · rw [asInt_eq ha] at r1; rw [asTup_eq hb] at r2
      obtain ⟨t, rfl⟩ := rep_int r1; obtain ⟨l', ws, m, rfl, _, h2, q2⟩ := rep_tup r2
      obtain ⟨ns, e1, rfl⟩ := Option.map_eq_some_iff.mp e
      have hi := ints_reps q2 e1
      refine SeqRoads2.notIn_tuple (isInt _) (fun y hy => eq_isInt _ t hi y (by simpa using hy)) h2 ?_
      rw [List.any_toArray, intsAre_any hi]; exact hQ0
    · obtain ⟨⟨t, rfl⟩, t', rfl⟩ := ss ha hb; cases e; exact SB.notContains hQ0
  | _ => exact none_ne h
end
end Mine
end

noncomputable section
open PySem PyProof.Rows
set_option Elab.async false
set_option linter.all false
set_option autoImplicit false
open PyProof.V (Flat same_str)
namespace Mine

noncomputable def truth : PV → Option Bool
  | .bool b => some b
  | .lst l => if l.length ≤ 2 ^ 20 then some (!l.isEmpty) else .none
  | _ => .none

/- a text's sign -/
noncomputable def strAt (x : Str) (i : Nat) : Option Str := (x.cps[i]?).map fun c => ⟨#[c]⟩

noncomputable def itemL (l : List PV) (i : Int) : Option PV := if 0 ≤ i ∧ i < 2 ^ 62 then l[i.toNat]? else if i = -1 then l.getLast? else .none
noncomputable def itemT (l : List PV) (i : Int) : Option PV := if 0 ≤ i ∧ i < 2 ^ 62 then l[i.toNat]? else .none
noncomputable def itemS (x : Str) (i : Int) : Option PV := if 0 ≤ i ∧ i < 2 ^ 62 then (strAt x i.toNat).map .str else .none
noncomputable def itemD (D : List (PyData × PyData)) (x : Str) : Option PV := (Spec.lookup (.str x) D).bind fun v => match v with
  | .int i => some (.int i)
  | _ => .none
noncomputable def pitem (a b : PV) : Option PV := match a with
  | .lst l => (asInt b).bind (itemL l)
  | .tup l => (asInt b).bind (itemT l)
  | .str x => (asInt b).bind (itemS x)
  | .dct D => (asStr b).bind (itemD D)
  | _ => .none
theorem pitem_lst {l : List PV} {i : Int} {d : PV} (h0 : 0 ≤ i) (h1 : i < 2 ^ 62) (h : l[i.toNat]? = some d) : pitem (.lst l) (.int i) = some d := (if_pos ⟨h0, h1⟩).trans h
theorem pitem_tup {l : List PV} {i : Int} {d : PV} (h0 : 0 ≤ i) (h1 : i < 2 ^ 62) (h : l[i.toNat]? = some d) : pitem (.tup l) (.int i) = some d := (if_pos ⟨h0, h1⟩).trans h
theorem pitem_str {x y : Str} {i : Int} (h0 : 0 ≤ i) (h1 : i < 2 ^ 62) (h : strAt x i.toNat = some y) : pitem (.str x) (.int i) = some (.str y) := (if_pos ⟨h0, h1⟩).trans (congrArg (Option.map PV.str) h)

/- a cut of a list by Python's bounds -/
noncomputable def pick {α : Type} (ds : List α) (lo hi st : Option Int) : List α :=
  (sliceRange (sliceBounds lo hi st ds.length).1 (sliceBounds lo hi st ds.length).2.1 (sliceBounds lo hi st ds.length).2.2).filterMap (ds[·]?)

noncomputable def part : PV → Option (Option Int)
  | .none => some .none
  | .int i => some (some i)
  | _ => .none

noncomputable def pslice (d : PV) (lo hi st : Option Int) : Option PV := match d with
  | .lst l => if l.length ≤ 2 ^ 20 ∧ st ≠ some 0 then some (.lst (pick l lo hi st)) else .none
  | .str x => if x.length ≤ 2 ^ 20 ∧ st = .none then some (.str (Txt.slice x lo hi)) else .none
  | _ => .none

theorem pslice_lst {l : List PV} {lo hi st : Option Int} (h : l.length ≤ 2 ^ 20) (h0 : st ≠ some 0) : pslice (.lst l) lo hi st = some (.lst (pick l lo hi st)) := if_pos ⟨h, h0⟩
theorem pslice_str {x : Str} {lo hi : Option Int} (h : x.length ≤ 2 ^ 20) : pslice (.str x) lo hi .none = some (.str (Txt.slice x lo hi)) := if_pos ⟨h, rfl⟩
theorem pick_eq (vs : List Value) (lo hi st : Option Int) : slicePick vs.toArray lo hi st = (pick vs lo hi st).toArray := by
  unfold slicePick pick
  simp

section
variable {G : Glo} {W : Addr → Prop} {mr : Option Addr} {A : Around} {E : Value → Shared → Prop} {s : Shared}

theorem Reps.filterMap {h : Heap} {vs : List Value} {ds : List PV} (r : GReps G W h vs ds) : ∀ idx : List Nat, GReps G W h (idx.filterMap (vs[·]?)) (idx.filterMap (ds[·]?))
  | [] => .nil
  | i :: r' => by
    cases e : ds[i]? with
    | none =>
      have : vs[i]? = none := by
        rw [List.getElem?_eq_none_iff] at e ⊢; rw [r.length]; exact e
      simpa [e, this] using Reps.filterMap r r'
    | some d =>
      obtain ⟨v, hv, rv⟩ := r.get e
      simpa [e, hv] using Reps.cons rv (Reps.filterMap r r')
theorem Reps.pick {h : Heap} {vs : List Value} {ds : List PV} (r : GReps G W h vs ds) (lo hi st : Option Int) : GReps G W h (pick vs lo hi st) (pick ds lo hi st) := by
  unfold Mine.pick
  rw [r.length]
  exact r.filterMap _

theorem truthy_list {v : Value} {ds : List PV} {Q : Bool → Shared → Prop} (r : RepT G W mr s.heap v (.lst ds)) (hsz : ds.length ≤ 2 ^ 20) (hQ : ∀ t, Q (!ds.isEmpty) { s with toks := t }) : wpAny G.M A (truthy v) Q E s := by
  obtain ⟨l, vs, n, rfl, h1, q1⟩ := r.list
  refine wpAny_truthy_list (lobj_list h1) (by simp [q1.length]; (first | lia | omega)) ?_
  have : vs.toArray.isEmpty = ds.isEmpty := by
    have := q1.length
    cases vs <;> cases ds <;> simp_all
  rw [this]; exact hQ _
theorem truthy_ok {v : Value} {d : PV} {b : Bool} {Q : Bool → Shared → Prop} (r : RepT G W mr s.heap v d) (h : truth d = some b) (hQ : ∀ t, Q b { s with toks := t }) : wpAny G.M A (truthy v) Q E s := by
  unfold truth at h
  split at h
  · obtain rfl := rep_bool (r.rep (by intro ds; nofun)); cases h; exact wpAny_truthy_bool (hQ _)
  · split at h
    · rename_i hsz
      cases h
      exact truthy_list r hsz hQ
    · cases h
  · cases h

theorem subscripted_any (slice : Expr) (o i : Value) : ∃ ops, subscripted slice false o i = operate ops (getItem o i) := by
  unfold subscripted
  split
  · exact ⟨_, rfl⟩
  · rename_i h; cases h
  · exact ⟨_, rfl⟩
theorem seqIndex_of {i : Int} {n : Nat} (h0 : 0 ≤ i) (h1 : i.toNat < n) : seqIndex? i n = some i.toNat := by
  simp [seqIndex?]; (first | lia | omega)

theorem flat_int {v : Value} {i : Int} (h : Flat v (.int i)) : ∃ t, v = .int i t := by have := h default; cases this; exact ⟨_, rfl⟩

theorem item_list {value slice : Expr} {v : Value} {t : Tok} {i : Int} {ds : List PV} {d : PV} (r1 : RepT G W mr s.heap v (.lst ds)) (h0 : 0 ≤ i) (h1 : i < 2 ^ 62) (h : ds[i.toNat]? = some d) :
    wpAny G.M A (subscriptTail value slice v (.int i t)) (Post G W d s) E s := by
  obtain ⟨l, vs, n, rfl, ho, q1⟩ := r1.list
  obtain ⟨ops, hs⟩ := subscripted_any slice (.ref l) (.int i t)
  obtain ⟨w₁, hw, rw⟩ := q1.get h
  exact tail_any (lobj_list ho).typeIs slot_list_getitem.lookup (getItem_listL (lobj_list ho) h0 (by (first | lia | omega)) hw ⟨Ext.refl s, rw⟩) hs
theorem item_last {value slice : Expr} {v : Value} {t : Tok} {ds : List PV} {d : PV} (r1 : RepT G W mr s.heap v (.lst ds)) (h : ds.getLast? = some d) :
    wpAny G.M A (subscriptTail value slice v (.int (-1) t)) (Post G W d s) E s := by
  obtain ⟨l, vs, n, rfl, ho, q1⟩ := r1.list
  obtain ⟨ops, hs⟩ := subscripted_any slice (.ref l) (.int (-1) t)
  have hne : ds ≠ [] := by rintro rfl; cases h
  have hlen : 0 < ds.length := List.length_pos_iff.mpr hne
  have h' : ds[ds.length - 1]? = some d := by rw [← h, List.getLast?_eq_getElem?]
  obtain ⟨w₁, hw, rw⟩ := q1.get h'
  exact tail_any (lobj_list ho).typeIs slot_list_getitem.lookup (wpAny_getItem_list_neg (lobj_list ho) (by (first | lia | omega)) (by simp [q1.length]; (first | lia | omega)) (by (first | lia | omega))
    (by simp only [List.size_toArray, q1.length]; rw [show ((-1 : Int) + (ds.length : Int)).toNat = ds.length - 1 by (first | lia | omega)]; simpa using hw) ⟨Ext.refl s, rw⟩) hs
theorem item_tup {value slice : Expr} {v : Value} {t : Tok} {i : Int} {ds : List PV} {d : PV} (r1 : GRep G W s.heap v (.tup ds)) (h0 : 0 ≤ i) (h1 : i < 2 ^ 62) (h : ds[i.toNat]? = some d) :
    wpAny G.M A (subscriptTail value slice v (.int i t)) (Post G W d s) E s := by
  obtain ⟨a, vs, n, rfl, _, ho, q1⟩ := rep_tup r1
  obtain ⟨w₁, hw, rw⟩ := q1.get h
  have hlt := (List.getElem?_eq_some_iff.mp hw).1
  obtain ⟨ops, hs⟩ := subscripted_any slice (.ref a) (.int i t)
  exact tail_any (tobj_tuple ho).typeIs slot_tuple_getitem.lookup (getItem_tuple (j := i.toNat) (tobj_tuple ho) (Int.le_trans (by decide) h0) (Int.lt_trans h1 (by decide)) (seqIndex_of h0 hlt) (List.getElem?_toArray.trans hw) ⟨Ext.refl s, rw⟩) hs
theorem item_str {value slice : Expr} {x y : Str} {t t' : Tok} {i : Int} (h0 : 0 ≤ i) (h1 : i < 2 ^ 62) (h : strAt x i.toNat = some y) :
    wpAny G.M A (subscriptTail value slice (.str x t) (.int i t')) (Post G W (.str y) s) E s := by
  obtain ⟨ops, hs⟩ := subscripted_any slice (.str x t) (.int i t')
  obtain ⟨c, hc, rfl⟩ := Option.map_eq_some_iff.mp h
  have hlt := (Array.getElem?_eq_some_iff.mp hc).1
  have hch : Txt.charAt x i = some c := by
    unfold Txt.charAt
    rw [show seqIndex? i x.length = some i.toNat from seqIndex_of h0 hlt]
    exact hc
  refine tail_any (typeIs_str _ _ _) F.slot_str_getitem.lookup (SB.getItem (by simp [fitsSsize]; (first | lia | omega)) (by rw [hch]; rfl) ?_) hs
  unfold Txt.item
  rw [hch]
  exact post_val (fun _ => .str _ _) _
theorem item_dct {value slice : Expr} {v : Value} {x : Str} {t : Tok} {D : List (PyData × PyData)} {i : Int} (r1 : GRep G W s.heap v (.dct D)) (hl : Spec.lookup (.str x) D = some (.int i)) :
    wpAny G.M A (subscriptTail value slice v (.str x t)) (Post G W (.int i) s) E s := by
  obtain ⟨a, rfl, _, lo, kvs, hd, hf⟩ := rep_dct r1
  obtain ⟨v, hv, hfl⟩ := hf.of_lookup same_str hl
  obtain ⟨t', rfl⟩ := flat_int hfl
  obtain ⟨ops, hs⟩ := subscripted_any slice (.ref a) (.str x t)
  exact tail_any hd.typeIs slot_dict_getitem.lookup (wpAny_getItem_of (strKind_is G.prog G.w x t) hd.mapOf hv (post_val (fun _ => .int _ _) _)) hs

theorem item_ok {value slice : Expr} {v u : Value} {a b d : PV} (r1 : RepT G W mr s.heap v a) (r2 : GRep G W s.heap u b) (h : pitem a b = some d) :
    wpAny G.M A (subscriptTail value slice v u) (Post G W d s) E s := by
  have hi : ∀ {i : Int}, asInt b = some i → ∃ t, u = .int i t := fun hb => by rw [asInt_eq hb] at r2; exact rep_int r2
  cases a with
  | lst l =>
    obtain ⟨i, hb, h⟩ := Option.bind_eq_some_iff.mp h
    obtain ⟨t, rfl⟩ := hi hb
    by_cases q : 0 ≤ i ∧ i < 2 ^ 62
    · exact item_list r1 q.1 q.2 ((if_pos q).symm.trans h)
    · have h' := (if_neg q).symm.trans h
      by_cases q1 : i = -1
      · rw [q1]; exact item_last r1 ((if_pos q1).symm.trans h')
      · exact none_ne ((if_neg q1).symm.trans h')
  | tup l =>
    obtain ⟨i, hb, h⟩ := Option.bind_eq_some_iff.mp h
    obtain ⟨t, rfl⟩ := hi hb
    by_cases q : 0 ≤ i ∧ i < 2 ^ 62
    · exact item_tup (r1.rep nofun) q.1 q.2 ((if_pos q).symm.trans h)
    · exact none_ne ((if_neg q).symm.trans h)
  | str x =>
    obtain ⟨i, hb, h⟩ := Option.bind_eq_some_iff.mp h
    obtain ⟨t', rfl⟩ := hi hb
    obtain ⟨t, rfl⟩ := repT_str r1
    by_cases q : 0 ≤ i ∧ i < 2 ^ 62
    · obtain ⟨y, hy, rfl⟩ := Option.map_eq_some_iff.mp ((if_pos q).symm.trans h)
      exact item_str q.1 q.2 hy
    · exact none_ne ((if_neg q).symm.trans h)
  | dct D =>
    obtain ⟨x, hb, h⟩ := Option.bind_eq_some_iff.mp h
    rw [asStr_eq hb] at r2
    obtain ⟨t, rfl⟩ := rep_str r2
    obtain ⟨y, hl, h⟩ := Option.bind_eq_some_iff.mp h
    cases y with
    | int i => cases h; exact item_dct (r1.rep nofun) hl
    | _ => exact none_ne h
  | _ => exact none_ne h

theorem slice_str {lower upper : Option Expr} {p : Pos} {value : Expr} {step : Option Expr} {x : Str} {t : Tok} {vl vu : Value} {lo hi : Option Int} (pl : IsPart vl lo) (pu : IsPart vu hi) (hsz : x.length ≤ 2 ^ 20) :
    wpAny G.M A (subscriptTail value (.Slice lower upper step p) (.str x t) (.ref s.heap.objs.size)) (Post G W (.str (Txt.slice x lo hi)) s) E { s with heap := s.heap.push { cls := .type "slice", data := .fields #[vl, vu, .none] } } := by
  have x' : Ext s { s with heap := s.heap.push { cls := .type "slice", data := .fields #[vl, vu, .none] } } := Ext.push s _
  obtain ⟨ops, hs⟩ := subscripted_any (.Slice lower upper step p) (.str x t) (.ref s.heap.objs.size)
  have part : ∀ {v : Value} {o : Option Int}, IsPart v o → ∃ l : Option (Int × Tok), v = partValue l ∧ o = l.map (·.1) := fun p => by
    cases p with
    | none => exact ⟨none, rfl, rfl⟩
    | int i t => exact ⟨some (i, t), rfl, rfl⟩
  obtain ⟨l, e1, e2⟩ := part pl
  obtain ⟨u, e3, e4⟩ := part pu
  refine tail_any (typeIs_str _ _ _) F.slot_str_getitem.lookup ?_ hs
  refine wpAny_getItem_str_slice (l := l) (u := u) (st := none) ⟨_, Heap.get?_push_size _ rfl, rfl, by rw [e1, e3]; rfl⟩ rfl ?_
  refine post_val_or_str ⟨?_, fun t' k => ⟨x'.toks k, ?_⟩⟩
  · exact Nat.le_trans (Txt.slice_le x _ _) (Nat.le_trans hsz sizeLine_big)
  · rw [e2, e4]; exact .str _ _

theorem slice_ok {value : Expr} {lower upper step : Option Expr} {p : Pos} {v vl vu vk : Value} {a d : PV} {lo hi st : Option Int} (hlo : Low W s) (r1 : RepT G W mr s.heap v a)
    (pl : IsPart vl lo) (pu : IsPart vu hi) (pk : IsPart vk st) (h : pslice a lo hi st = some d) :
    wpAny G.M A (subscriptTail value (.Slice lower upper step p) v (.ref s.heap.objs.size)) (Post G W d s) E { s with heap := s.heap.push { cls := .type "slice", data := .fields #[vl, vu, vk] } } := by
  have x : Ext s { s with heap := s.heap.push { cls := .type "slice", data := .fields #[vl, vu, vk] } } := Ext.push s _
  cases a with
  | lst l =>
    obtain ⟨l, vs, n, rfl, h1, q1⟩ := r1.list
    obtain ⟨ops, hs⟩ := subscripted_any (.Slice lower upper step p) (.ref l) (.ref s.heap.objs.size)
    refine ite_some h fun hc h => ?_
    rw [← h]
    have h1' := x.keep _ _ h1
    refine tail_any (lobj_list h1').typeIs slot_list_getitem.lookup (wpAny_getItem_list_slice (lobj_list h1') (Heap.IsSliceOf.new ..) pl pu pk hc.2 ?_ (by rw [List.size_toArray, q1.length]; exact Nat.le_trans hc.1 sizeLine_big)) hs
    rw [pick_eq]
    have z := post_newList (G := G) (W := W) (s := { s with heap := s.heap.push { cls := .type "slice", data := .fields #[vl, vu, vk] } }) (vs := pick vs lo hi st) (ds := _) (Low.ext hlo x) ((q1.ext x).pick lo hi st) s.toks
    exact ⟨x.trans z.1, z.2⟩
  | str y =>
    obtain ⟨t, rfl⟩ := repT_str r1
    refine ite_some h fun hc h => ?_
    rw [← h]
    obtain ⟨hc1, rfl⟩ := hc
    cases pk
    exact slice_str pl pu hc1
  | _ => exact none_ne h
end
end Mine
end

noncomputable section
open PySem PyProof.Rows
set_option Elab.async false
set_option linter.all false
set_option autoImplicit false
open PyProof.V (Flat same_str)
namespace Mine

section
variable {G : Glo} {W : Addr → Prop} {mr : Option Addr} {A : Around} {E : Value → Shared → Prop} {s : Shared}

theorem len_list_ok {v : Value} {ds : List PV} (r : RepT G W mr s.heap v (.lst ds)) (hsz : ds.length ≤ 2 ^ 20) : wpAny G.M A (call (.builtin "len") [v]) (Post G W (.int ds.length) s) E s := by
  obtain ⟨l, vs, n, rfl, ho, q1⟩ := r.list
  refine len_list (lobj_list ho) (by simp [q1.length]; (first | lia | omega)) ?_
  have : (vs.toArray.size : Int) = ds.length := by simp [q1.length]
  rw [this]
  exact post_val (fun _ => .int _ _) _
theorem len_str_ok {x : Str} {t : Tok} (hsz : x.length ≤ 2 ^ 20) : wpAny G.M A (call (.builtin "len") [.str x t]) (Post G W (.int x.length) s) E s :=
  len_str (by (first | lia | omega)) (post_val (fun _ => .int _ _) _)

noncomputable def plen : PV → Option PV
  | .lst l => if l.length ≤ 2 ^ 20 then some (.int l.length) else .none
  | .str x => if x.length ≤ 2 ^ 20 then some (.int x.length) else .none
  | _ => .none
theorem len_ok {v : Value} {a d : PV} (r : RepT G W mr s.heap v a) (h : plen a = some d) : wpAny G.M A (call (.builtin "len") [v]) (Post G W d s) E s := by
  unfold plen at h
  split at h
  · split at h
    · rename_i hz; cases h; exact len_list_ok r hz
    · cases h
  · obtain ⟨t, rfl⟩ := rep_str (r.rep (by intro ds; nofun))
    split at h
    · rename_i hz; cases h; exact len_str_ok hz
    · cases h
  · cases h

theorem sum_ok {v : Value} {ds : List PV} {ns : List Int} (hh : A.handled = none) (r : RepT G W mr s.heap v (.lst ds)) (e : pints ds = some ns) :
    wpAny G.M A (call (.builtin "sum") [v]) (Post G W (.int ns.sum) s) E s := by
  obtain ⟨l, vs, n, rfl, ho, q1⟩ := r.list
  have hi := ints_reps q1 e
  refine call_sum_walkAnyS (wpAny_pyIter_list (lobj_list ho) ?_)
  have hlt : l < s.heap.objs.size := Heap.lt_size ho
  refine ⟨s.heap.objs.size, _, _, _, _, _, _, fun i => ns.getD i 0, rfl, (Walks.list (prog := G.prog) (w := G.w) (A := A.in1) hh s.heap.objs.size l (Nat.ne_of_lt hlt) vs.toArray).toS, ?_, ?_, ?_, ?_⟩
  · exact ⟨⟨_, Heap.get?_push_size _ rfl, rfl, rfl⟩, (lobj_list ho).push _⟩
  · intro b hb
    show b < (s.heap.push _).objs.size
    rw [Heap.size_push]
    simp only [List.mem_cons, List.not_mem_nil, or_false] at hb
    rcases hb with rfl | rfl
    · exact Nat.lt_succ_self _
    · exact Nat.lt_succ_of_lt hlt
  · intro i v hv
    have hlen := hi.length
    have hlt' : i < ns.length := by
      have := (Array.getElem?_eq_some_iff.mp hv).1
      simp at this; (first | lia | omega)
    obtain ⟨t, ht⟩ := hi.get i ns[i] (by simp [hlt'])
    refine ⟨t, ?_⟩
    have : vs[i]? = some v := by simpa using hv
    rw [ht] at this
    cases this
    simp [List.getD, hlt']
  · intro s' t' mv
    have hs : preSum (fun i => ns.getD i 0) vs.toArray.size = ns.sum := by
      rw [preSum_getD, List.size_toArray, hi.length, List.take_length]
    rw [hs]
    refine ⟨⟨fun b o hb => ?_, fun i x hx => ?_, fun hb => ?_, mv.os⟩, .int _ _⟩
    · refine mv.heap b o ?_ (Heap.get?_push_of_some _ hb)
      intro q
      simp only [List.mem_cons, List.not_mem_nil, or_false] at q
      subst q
      exact absurd (Heap.lt_size hb) (Nat.lt_irrefl _)
    · rw [mv.gens]; exact hx
    · rw [mv.gens]; exact hb

/- a method of one argument -/
theorem method1_on {T id : String} {name : Str} {ov : Value} {pos : Pos} {t : Sem Value} {Q : Value → Shared → Prop} (pa : PlainAttrs T) (slot : Slot T name id) (hty : typeOf (.builtin id) = pure (.type "method_descriptor"))
    (hT : s.TypeIs ov T) (hd : ∀ a, ov = .ref a → ∃ ob, s.heap.get? a = some ob ∧ ob.dict = none) (h : wpAny G.M A t (fun v s₁ => wpAny G.M A (call (.builtin id) [ov, v]) Q E s₁) E s) :
    MethodOnS G.prog G.w A E name ov pos [(false, t)] Q s :=
  ⟨T, id, pa, slot, hty, hT, hd, Calls.callWith_builtin rfl (Calls.evalArgs_plain (Calls.spliced_cons (wpAny_mono h (fun _ _ h₁ => Calls.spliced_nil h₁) fun _ _ e => e)))⟩

theorem pstrs_reps {h : Heap} : ∀ {vs : List Value} {ds : List PV} {xs : List Str}, GReps G W h vs ds → pstrs ds = some xs → ∃ l : List (Str × Tok), vs = strValues l ∧ l.map (·.1) = xs
  | _, _, _, .nil, e => by simp [pstrs] at e; subst e; exact ⟨[], rfl, rfl⟩
  | _, _, _, .cons (d := d) r q, e => by
    cases r with
    | str x t =>
      simp only [pstrs, Option.map_eq_some_iff] at e
      obtain ⟨ms, e1, rfl⟩ := e
      obtain ⟨l, h1, h2⟩ := pstrs_reps q e1
      exact ⟨(x, t) :: l, by rw [h1]; rfl, by simp [h2]⟩
    | _ => simp [pstrs] at e

theorem join_ok {x : Str} {t : Tok} {v : Value} {ds : List PV} {xs : List Str} (r : RepT G W mr s.heap v (.lst ds)) (e : pstrs ds = some xs) (hsz : (xs.map (·.length)).sum + xs.length * x.length ≤ 2 ^ 20) :
    wpAny G.M A (call (.builtin "str.join") [.str x t, v]) (Post G W (.str (Txt.join x xs)) s) E s := by
  obtain ⟨l, vs, n, rfl, ho, q1⟩ := r.list
  obtain ⟨ts, rfl, rfl⟩ := pstrs_reps q1 e
  have hok : JoinOk x (ts.map (·.1)) = true := joinOk_of (by (first | lia | omega))
  refine call_meets F.slot_str_join (typeIs_str _ _ _) F.entry_str_join (F.args_str_join_2 _ _) (meets_str_join_list x t l ts (by simpa [JoinOk] using hok)) ⟨lobj_list ho, ?_⟩
  exact post_join ts ⟨joinOk_length hok, fun t' k => ⟨Ext.tok s k, .str _ _⟩⟩

theorem index_ok {v : Value} {ds : List PV} {ns : List Int} {k : Int} {t : Tok} (r : RepT G W mr s.heap v (.lst ds)) (e : pints ds = some ns) (hk : k ∈ ns) (hsz : ds.length ≤ 2 ^ 20) :
    wpAny G.M A (call (.builtin "list.index") [v, .int k t]) (Post G W (.int (ns.idxOf k : Nat)) s) E s := by
  obtain ⟨l, vs, n, rfl, ho, q1⟩ := r.list
  have hi := ints_reps q1 e
  have hlen := hi.length
  have hj : ns.idxOf k < ns.length := List.idxOf_lt_length_iff.mpr hk
  have hl2 := q1.length
  refine call_meets F.slot_list_index ⟨_, ho, rfl⟩ F.entry_list_index (F.args_list_index_2 _ _)
    (SeqAt.list_indexAt l vs.toArray n none #[] (.int k t) (isInt k) (ns.idxOf k) (by simpa [hlen] using hj) (by (first | lia | omega)) ?_ ?_) ⟨ho, fun y hy => (eq_isInt k t hi y (by simpa using hy)).at _ _, post_val (fun _ => .int _ _) _⟩
  · show isInt k vs[ns.idxOf k] = true
    rw [isInt_at k hi _ (by (first | lia | omega)) hj]
    simpa using List.getElem_idxOf hj
  · intro j hjs hlt
    show isInt k vs[j] = false
    rw [isInt_at k hi j (by simpa using hjs) (by (first | lia | omega))]
    exact ne_of_lt_idxOf hlt _

theorem get_ok {v : Value} {x : Str} {t : Tok} {D : List (PyData × PyData)} {d : PV} (r1 : GRep G W s.heap v (.dct D)) (h : (match Spec.lookup (.str x) D with | some (.int i) => some (PV.int i) | none => some PV.none | _ => Option.none) = some d) :
    wpAny G.M A (call (.builtin "dict.get") [v, .str x t]) (Post G W d s) E s := by
  cases r1 with
  | @dct a _ hw T =>
    refine call_get1_strTab T fun v hf => ?_
    split at h
    · rename_i i hl
      rw [hl] at hf
      cases h
      obtain ⟨t', rfl⟩ := flat_int hf
      exact post_val (fun _ => .int _ _) _
    · rename_i hl
      rw [hl] at hf
      cases h
      have := hf default
      cases this
      exact post_val (fun _ => .none) _
    · cases h
end
end Mine
end

noncomputable section
open PySem PyProof.Rows
set_option Elab.async false
set_option linter.all false
set_option autoImplicit false
namespace Mine

noncomputable def SemE (G : Glo) (k : Nat) (sc : Scope) (mv : Option Str) (σ : Sig) (e : Expr) (d : PV) : Prop :=
  ∀ (A : Around) (s₀ s : Shared) (env : Env) (W : Addr → Prop) (mr : Option Addr), Room k A → env.scope = sc → Frame G s₀ env W mv mr σ s → wpAny G.M A (eval e env) (Post G W d s) No s
noncomputable def SemT (G : Glo) (k : Nat) (sc : Scope) (mv : Option Str) (σ : Sig) (e : Expr) (d : PV) : Prop :=
  ∀ (A : Around) (s₀ s : Shared) (env : Env) (W : Addr → Prop) (mr : Option Addr), Room k A → env.scope = sc → Frame G s₀ env W mv mr σ s → wpAny G.M A (eval e env) (PostT G W mr d s) No s
noncomputable def SemB (G : Glo) (k : Nat) (sc : Scope) (mv : Option Str) (σ : Sig) (e : Expr) (b : Bool) : Prop :=
  ∀ (A : Around) (s₀ s : Shared) (env : Env) (W : Addr → Prop) (mr : Option Addr), Room k A → env.scope = sc → Frame G s₀ env W mv mr σ s → wpAny G.M A (isTrue e env (eval e env)) (fun c s' => c = b ∧ Ext s s') No s
noncomputable def SemEs (G : Glo) (k : Nat) (sc : Scope) (mv : Option Str) (σ : Sig) (es : List Expr) (ds : List PV) : Prop :=
  ∀ (A : Around) (s₀ s : Shared) (env : Env) (W : Addr → Prop) (mr : Option Addr) (pos : Pos), Room k A → env.scope = sc → Frame G s₀ env W mv mr σ s →
    wpAny G.M A (spliced (backTo pos (starEach es env))) (fun vs s' => Ext s s' ∧ GReps G W s'.heap vs ds) No s

noncomputable def CallOK (G : Glo) (k : Nat) (f : Str) (ds : List PV) (d : PV) : Prop :=
  ∀ (A : Around) (s : Shared) (W : Addr → Prop) (vs : List Value) (a : Addr), Room k A → Base G s.heap → AllBare s.gens → Low W s → G.mg f = some (.ref a) → GReps G W s.heap vs ds →
    codeAny G.M A (.call (.ref a) ⟨vs, []⟩) (fun r s' => ∃ v, r = .ok (.ret v) ∧ Post G W d s v s') s

section
variable {G : Glo} {k : Nat} {sc : Scope} {mv : Option Str} {σ : Sig}

theorem Post.back {W : Addr → Prop} {d : PV} {s s₁ : Shared} {v : Value} {s' : Shared} (x : Ext s s₁) (p : Post G W d s₁ v s') : Post G W d s v s' := ⟨x.trans p.1, p.2⟩

theorem SemE.toT {e : Expr} {d : PV} (h : SemE G k sc mv σ e d) : SemT G k sc mv σ e d := fun A s₀ s env W mr R hs F =>
  wpAny_mono (h A s₀ s env W mr R hs F) (fun _ _ p => ⟨p.1, .inl p.2⟩) fun _ _ x => x
theorem SemE.mono {k' : Nat} {e : Expr} {d : PV} (h : SemE G k' sc mv σ e d) (hk : k' ≤ k) : SemE G k sc mv σ e d := fun A s₀ s env W mr R hs F => h A s₀ s env W mr (R.mono hk) hs F
theorem CallOK.mono {k' : Nat} {f : Str} {ds : List PV} {d : PV} (h : CallOK G k' f ds d) (hk : k' ≤ k) : CallOK G k f ds d := fun A s W vs a R => h A s W vs a (R.mono hk)

theorem sem_none {p : Pos} {n : Nat} : SemE G k sc mv σ (.Constant .none n p) .none := fun A s₀ s env W mr R hs F => Constant_none ⟨Ext.refl s, .none⟩
theorem sem_bool {b : Bool} {p : Pos} {n : Nat} : SemE G k sc mv σ (.Constant (.bool b) n p) (.bool b) := fun A s₀ s env W mr R hs F => Constant_bool ⟨Ext.refl s, .bool b⟩
theorem sem_int {i : Int} {p : Pos} {n : Nat} : SemE G k sc mv σ (.Constant (.int i) n p) (.int i) := fun A s₀ s env W mr R hs F => wpAny_Constant_int (post_val (fun _ => .int _ _) _)
theorem sem_str {x : Str} {p : Pos} {n : Nat} : SemE G k sc mv σ (.Constant (.str x) n p) (.str x) := fun A s₀ s env W mr R hs F => Calls.Constant_str (post_val (fun _ => .str _ _) _)

theorem sem_nameT {x : Str} {d : PV} {p : Pos} (hx : σ.lookup x = some d) (hd : (x == ("__debug__" : Str)) = false) : SemT G k sc mv σ (.Name x p) d := fun A s₀ s env W mr R hs F =>
  wpAny_Name (F.load hx fun _ V => ⟨Ext.refl s, V.repT⟩) hd
theorem sem_name {x : Str} {d : PV} {p : Pos} (hx : σ.lookup x = some d) (hd : (x == ("__debug__" : Str)) = false) (hm : mv ≠ some x) : SemE G k sc mv σ (.Name x p) d := fun A s₀ s env W mr R hs F =>
  wpAny_Name (F.load hx fun _ V => ⟨Ext.refl s, V.elim (fun q => q.2) fun q => absurd q.1 hm⟩) hd

/- the table of signs; W keeps off it: it lies in the base -/
theorem sem_tok {p : Pos} (hx : sc.names.lookup ("EXACT_TOKEN_TYPES" : Str) = some .globalImplicit) : ∀ (A : Around) (s₀ s : Shared) (env : Env) (W : Addr → Prop) (mr : Option Addr), env.scope = sc → Frame G s₀ env W mv mr σ s →
    wpAny G.M A (eval (.Name "EXACT_TOKEN_TYPES" p) env) (fun v s' => Ext s s' ∧ GRep G (fun _ => False) s'.heap v (.dct G.tok)) No s := fun A s₀ s env W mr hs F => by
  obtain ⟨a, h1, h2⟩ := F.base.tok
  refine Calls.Name_function_global F.fk (by unfold Env.kindOf; rw [hs]; exact hx) (Calls.loadGlobal_global (by rw [F.gl]; exact F.base.g) h1 ⟨Ext.refl s, .dct (fun h => h) h2⟩) (by decide)

theorem sem_binop {l r : Expr} {op : Operator} {p : Pos} {a b d : PV} (hl : SemT G k sc mv σ l a) (hr : SemE G k sc mv σ r b) (h : binop op a b = some d) : SemE G k sc mv σ (.BinOp l op r p) d := fun A s₀ s env W mr R hs F =>
  wpAny_BinOp (wpAny_mono (hl A s₀ s env W mr R hs F) (fun _ s₁ p₁ => wpAny_mono (hr A s₀ s₁ env W mr R hs (F.more p₁.1))
    (fun _ s₂ p₂ => wpAny_mono (binop_ok ((F.more p₁.1).more p₂.1).low (p₁.2.ext p₂.1) p₂.2 h) (fun _ _ p₃ => p₃.back (p₁.1.trans p₂.1)) fun _ _ x => x) fun _ _ x => x) fun _ _ x => x)

theorem sem_not {e : Expr} {p : Pos} {a : PV} {b : Bool} (he : SemT G k sc mv σ e a) (h : truth a = some b) : SemE G k sc mv σ (.UnaryOp .Not e p) (.bool (!b)) := fun A s₀ s env W mr R hs F =>
  UnaryOp_ (wpAny_mono (he A s₀ s env W mr R hs F) (fun _ s₁ p₁ => not_of (truthy_ok p₁.2 h fun t => ⟨p₁.1.toks t, .bool _⟩)) fun _ _ x => x)
theorem sem_neg {e : Expr} {p : Pos} {i : Int} (he : SemE G k sc mv σ e (.int i)) : SemE G k sc mv σ (.UnaryOp .USub e p) (.int (-i)) := fun A s₀ s env W mr R hs F =>
  UnaryOp_ (wpAny_mono (he A s₀ s env W mr R hs F) (fun _ s₁ p₁ => by
    obtain ⟨t, rfl⟩ := rep_int p₁.2
    exact neg_int ⟨p₁.1.toks _, .int _ _⟩) fun _ _ x => x)

theorem sem_ifexp {t b o : Expr} {p : Pos} {c : Bool} {d : PV} (ht : SemB G k sc mv σ t c) (hb : c = true → SemE G k sc mv σ b d) (ho : c = false → SemE G k sc mv σ o d) : SemE G k sc mv σ (.IfExp t b o p) d := fun A s₀ s env W mr R hs F =>
  IfExp_ (wpAny_mono (ht A s₀ s env W mr R hs F) (fun c' s₁ p₁ => by
    obtain ⟨rfl, x₁⟩ := p₁
    cases c' with
    | true => exact wpAny_mono (hb rfl A s₀ s₁ env W mr R hs (F.more x₁)) (fun _ _ p => p.back x₁) fun _ _ x => x
    | false => exact wpAny_mono (ho rfl A s₀ s₁ env W mr R hs (F.more x₁)) (fun _ _ p => p.back x₁) fun _ _ x => x) fun _ _ x => x)

theorem Room.here {A : Around} (R : Room k A) : A.units < cLine := by have := R.units; (first | lia | omega)

theorem sem_compare {l r : Expr} {op : CmpOp} {p : Pos} {a b : PV} {c : Bool} (hl : SemE G k sc mv σ l a) (hr : SemE G k sc mv σ r b) (hm : behindInMarks op r = false) (h : cmpop op a b = some c) :
    SemE G k sc mv σ (.Compare l [op] [r] p) (.bool c) := fun A s₀ s env W mr R hs F =>
  wpAny_Compare1 (wpAny_mono (hl A s₀ s env W mr R hs F) (fun _ s₁ p₁ => wpAny_mono (hr A s₀ s₁ env W mr R hs (F.more p₁.1))
    (fun _ s₂ p₂ => cmp_ok R.here (p₁.2.ext p₂.1) p₂.2 h fun t => ⟨(p₁.1.trans p₂.1).toks t, .bool _⟩) fun _ _ x => x) fun _ _ x => x) hm
theorem semB_compare {l r : Expr} {op : CmpOp} {p : Pos} {a b : PV} {c : Bool} (hl : SemE G k sc mv σ l a) (hr : SemE G k sc mv σ r b) (hm : behindInMarks op r = false) (h : cmpop op a b = some c) :
    SemB G k sc mv σ (.Compare l [op] [r] p) c := fun A s₀ s env W mr R hs F =>
  wpAny_isTrue_Compare1 (wpAny_mono (hl A s₀ s env W mr R hs F) (fun _ s₁ p₁ => wpAny_mono (hr A s₀ s₁ env W mr R hs (F.more p₁.1))
    (fun _ s₂ p₂ => cmp_ok R.here (p₁.2.ext p₂.1) p₂.2 h fun t => wpAny_truthy_bool ⟨rfl, (p₁.1.trans p₂.1).toks t⟩) fun _ _ x => x) fun _ _ x => x) hm

/- «x in EXACT_TOKEN_TYPES» and «in» an own table -/
theorem semB_in_tok {l : Expr} {p p' : Pos} {x : Str} (hl : SemE G k sc mv σ l (.str x)) (hx : sc.names.lookup ("EXACT_TOKEN_TYPES" : Str) = some .globalImplicit) :
    SemB G k sc mv σ (.Compare l [.In] [.Name "EXACT_TOKEN_TYPES" p'] p) (Spec.lookup (.str x) G.tok).isSome := fun A s₀ s env W mr R hs F =>
  wpAny_isTrue_Compare1 (wpAny_mono (hl A s₀ s env W mr R hs F) (fun _ s₁ p₁ => wpAny_mono (sem_tok hx A s₀ s₁ env W mr hs (F.more p₁.1))
    (fun _ s₂ p₂ => by
      obtain ⟨t, rfl⟩ := rep_str p₁.2
      exact cmp_ok (W := fun _ => False) (a := .str x) R.here (.str x t) p₂.2 (c := (Spec.lookup (.str x) G.tok).isSome) rfl fun t => wpAny_truthy_bool ⟨rfl, (p₁.1.trans p₂.1).toks t⟩) fun _ _ x => x) fun _ _ x => x) rfl

theorem semB_not {e : Expr} {p : Pos} {b : Bool} (he : SemB G k sc mv σ e b) : SemB G k sc mv σ (.UnaryOp .Not e p) (!b) := fun A s₀ s env W mr R hs F =>
  isTrue_not (wpAny_mono (he A s₀ s env W mr R hs F) (fun c s₁ p₁ => ⟨by rw [p₁.1], p₁.2⟩) fun _ _ x => x)

/- a chain of two -/
theorem semB_chain {l m r : Expr} {o₁ o₂ : CmpOp} {p : Pos} {a b c : PV} {x : Bool} {y : Bool} (hl : SemE G k sc mv σ l a) (hm : SemE G k sc mv σ m b) (hr : SemE G k sc mv σ r c) (hk : lastMarks [o₁, o₂] [m, r] = false)
    (h₁ : cmpop o₁ a b = some x) (h₂ : cmpop o₂ b c = some y) : SemB G k sc mv σ (.Compare l [o₁, o₂] [m, r] p) (x && y) := fun A s₀ s env W mr R hs F =>
  isTrue_chain (wpAny_mono (hl A s₀ s env W mr R hs F) (fun _ s₁ p₁ => test_link (wpAny_mono (hm A s₀ s₁ env W mr R hs (F.more p₁.1)) (fun _ s₂ p₂ =>
    cmp_ok R.here (p₁.2.ext p₂.1) p₂.2 h₁ fun t => wpAny_truthy_bool (by
      cases x with
      | false => exact ⟨rfl, (p₁.1.trans p₂.1).toks t⟩
      | true =>
        refine test_last ?_
        have F₂ := ((F.more p₁.1).more p₂.1).more (Ext.tok s₂ t)
        refine wpAny_mono (hr A s₀ _ env W mr R hs F₂) (fun _ s₃ p₃ => cmp_ok R.here ((p₂.2.ext (Ext.tok s₂ t)).ext p₃.1) p₃.2 h₂ fun t' => wpAny_truthy_bool ⟨by simp, ((p₁.1.trans p₂.1).trans ((Ext.tok s₂ t).trans p₃.1)).toks t'⟩) fun _ _ x => x))
      fun _ _ x => x)) fun _ _ x => x) hk

theorem semB_and {e : Expr} {es : List Expr} {p : Pos} {b c : Bool} (he : SemB G k sc mv σ e b) (hr : b = true → SemB G k sc mv σ (.BoolOp .And es p) c) (hc : b = false → c = false) : SemB G k sc mv σ (.BoolOp .And (e :: es) p) c := fun A s₀ s env W mr R hs F =>
  isTrue_and (wpAny_mono (he A s₀ s env W mr R hs F) (fun b' s₁ p₁ => by
    obtain ⟨rfl, x₁⟩ := p₁
    cases b' with
    | true => exact wpAny_mono (hr rfl A s₀ s₁ env W mr R hs (F.more x₁)) (fun _ _ p => ⟨p.1, x₁.trans p.2⟩) fun _ _ x => x
    | false => exact ⟨(hc rfl).symm, x₁⟩) fun _ _ x => x)
theorem semB_and_nil {p : Pos} : SemB G k sc mv σ (.BoolOp .And [] p) true := fun A s₀ s env W mr R hs F => isTrue_and_nil ⟨rfl, Ext.refl s⟩
theorem semB_or {e : Expr} {es : List Expr} {p : Pos} {b c : Bool} (he : SemB G k sc mv σ e b) (hr : b = false → SemB G k sc mv σ (.BoolOp .Or es p) c) (hc : b = true → c = true) : SemB G k sc mv σ (.BoolOp .Or (e :: es) p) c := fun A s₀ s env W mr R hs F =>
  isTrue_or (wpAny_mono (he A s₀ s env W mr R hs F) (fun b' s₁ p₁ => by
    obtain ⟨rfl, x₁⟩ := p₁
    cases b' with
    | false => exact wpAny_mono (hr rfl A s₀ s₁ env W mr R hs (F.more x₁)) (fun _ _ p => ⟨p.1, x₁.trans p.2⟩) fun _ _ x => x
    | true => exact ⟨(hc rfl).symm, x₁⟩) fun _ _ x => x)
theorem semB_or_nil {p : Pos} : SemB G k sc mv σ (.BoolOp .Or [] p) false := fun A s₀ s env W mr R hs F => isTrue_or_nil ⟨rfl, Ext.refl s⟩

/- any other test: its value's truth -/
theorem semB_plain {e : Expr} {a : PV} {b : Bool} (he : SemT G k sc mv σ e a) (h : truth a = some b) (hp : ∀ env whole, isTrue e env whole = (do let v ← whole; standAt e.pos; holding [v] (truthy v))) : SemB G k sc mv σ e b := fun A s₀ s env W mr R hs F =>
  isTrue_plain (wpAny_mono (he A s₀ s env W mr R hs F) (fun _ s₁ p₁ => truthy_ok p₁.2 h fun t => ⟨rfl, p₁.1.toks t⟩) fun _ _ x => x) (hp _ _)

noncomputable def notStarred : Expr → Bool
  | .Starred .. => false
  | _ => true
theorem starEach_plain {e : Expr} (h : notStarred e = true) (rest : List Expr) (env : Env) : starEach (e :: rest) env = (false, eval e env) :: starEach rest env := by
  cases e <;> first | rfl | cases h

theorem semEs_nil : SemEs G k sc mv σ [] [] := fun A s₀ s env W mr pos R hs F => args_nil ⟨Ext.refl s, .nil⟩
theorem semEs_cons {e : Expr} {es : List Expr} {d : PV} {ds : List PV} (hn : notStarred e = true) (he : SemE G k sc mv σ e d) (hr : SemEs G k sc mv σ es ds) : SemEs G k sc mv σ (e :: es) (d :: ds) := fun A s₀ s env W mr pos R hs F =>
  args_cons (wpAny_mono (he A s₀ s env W mr R hs F) (fun _ s₁ p₁ => wpAny_mono (hr A s₀ s₁ env W mr pos R hs (F.more p₁.1)) (fun _ _ p₂ => ⟨p₁.1.trans p₂.1, .cons (p₁.2.ext p₂.1) p₂.2⟩) fun _ _ x => x) fun _ _ x => x) (starEach_plain hn _ _)

theorem newList_post {A : Around} {W : Addr → Prop} {s : Shared} {vs : List Value} {ds : List PV} (hlo : Low W s) (r : GReps G W s.heap vs ds) (hsz : ds.length ≤ 2 ^ 20) : wpAny G.M A (newList vs) (Post G W (.lst ds) s) No s :=
  wpAny_newObj_type (post_newList hlo r s.toks) (by show vs.toArray.size ≤ sizeLine; rw [List.size_toArray, r.length]; exact Nat.le_trans hsz sizeLine_big)
theorem newTuple_post {A : Around} {W : Addr → Prop} {s : Shared} {vs : List Value} {ds : List PV} (hlo : Low W s) (r : GReps G W s.heap vs ds) (hsz : ds.length ≤ 2 ^ 20) : wpAny G.M A (newTuple vs) (Post G W (.tup ds) s) No s :=
  wpAny_newObj_type (post_newTuple hlo r s.toks) (by show vs.toArray.size ≤ sizeLine; rw [List.size_toArray, r.length]; exact Nat.le_trans hsz sizeLine_big)

theorem sem_list {es : List Expr} {ds : List PV} {p : Pos} (h : SemEs G k sc mv σ es ds) (hsz : ds.length ≤ 2 ^ 20) : SemE G k sc mv σ (.List es p) (.lst ds) := fun A s₀ s env W mr R hs F =>
  List_ (wpAny_mono (h A s₀ s env W mr p R hs F) (fun _ s₁ p₁ => wpAny_mono (newList_post (F.more p₁.1).low p₁.2 hsz) (fun _ _ p₂ => p₂.back p₁.1) fun _ _ x => x) fun _ _ x => x)
theorem sem_tuple {es : List Expr} {ds : List PV} {n : Nat} {p : Pos} (h : SemEs G k sc mv σ es ds) (hsz : ds.length ≤ 2 ^ 20) : SemE G k sc mv σ (.Tuple es n p) (.tup ds) := fun A s₀ s env W mr R hs F =>
  Tuple_ (wpAny_mono (h A s₀ s env W mr p R hs F) (fun _ s₁ p₁ => wpAny_mono (newTuple_post (F.more p₁.1).low p₁.2 hsz) (fun _ _ p₂ => p₂.back p₁.1) fun _ _ x => x) fun _ _ x => x)

theorem sem_item {v i : Expr} {p : Pos} {a b d : PV} (hv : SemT G k sc mv σ v a) (hi : SemE G k sc mv σ i b) (h : pitem a b = some d) : SemE G k sc mv σ (.Subscript v i p) d := fun A s₀ s env W mr R hs F =>
  Subscript_ (wpAny_mono (hv A s₀ s env W mr R hs F) (fun _ s₁ p₁ => wpAny_mono (hi A s₀ s₁ env W mr R hs (F.more p₁.1)) (fun _ s₂ p₂ =>
    wpAny_mono (item_ok (p₁.2.ext p₂.1) p₂.2 h) (fun _ _ p₃ => p₃.back (p₁.1.trans p₂.1)) fun _ _ x => x) fun _ _ x => x) fun _ _ x => x)

theorem sem_item_tok {i : Expr} {p p' : Pos} {x : Str} {n : Int} (hi : SemE G k sc mv σ i (.str x)) (hx : sc.names.lookup ("EXACT_TOKEN_TYPES" : Str) = some .globalImplicit) (h : Spec.lookup (.str x) G.tok = some (.int n)) :
    SemE G k sc mv σ (.Subscript (.Name "EXACT_TOKEN_TYPES" p') i p) (.int n) := fun A s₀ s env W mr R hs F =>
  Subscript_ (wpAny_mono (sem_tok hx A s₀ s env W mr hs F) (fun _ s₁ p₁ => wpAny_mono (hi A s₀ s₁ env W mr R hs (F.more p₁.1)) (fun _ s₂ p₂ => by
    obtain ⟨t, rfl⟩ := rep_str p₂.2
    exact wpAny_mono (item_dct (p₁.2.ext p₂.1) h) (fun _ _ p₃ => ⟨(p₁.1.trans p₂.1).trans p₃.1, by
      have := p₃.2
      obtain ⟨t', rfl⟩ := rep_int this
      exact .int _ _⟩) fun _ _ x => x) fun _ _ x => x) fun _ _ x => x)

/- a bound of a cut -/
noncomputable def SemP (G : Glo) (k : Nat) (sc : Scope) (mv : Option Str) (σ : Sig) (e : Option Expr) (o : Option Int) : Prop := match e, o with
  | none, none => True
  | some e, some i => SemE G k sc mv σ e (.int i)
  | _, _ => False
theorem SemP.run {e : Option Expr} {o : Option Int} (h : SemP G k sc mv σ e o) : ∀ (A : Around) (s₀ s : Shared) (env : Env) (W : Addr → Prop) (mr : Option Addr), Room k A → env.scope = sc → Frame G s₀ env W mv mr σ s →
    wpAny G.M A (evalPart e env) (fun v s' => Ext s s' ∧ IsPart v o) No s := fun A s₀ s env W mr R hs F => by
  cases e with
  | none =>
    cases o with
    | none => exact wpAny_evalPart_none ⟨Ext.refl s, .none⟩
    | some i => exact h.elim
  | some e =>
    cases o with
    | none => exact h.elim
    | some i => exact wpAny_evalPart_some (wpAny_mono (h A s₀ s env W mr R hs F) (fun _ _ p => ⟨p.1, by obtain ⟨t, rfl⟩ := rep_int p.2; exact .int i t⟩) fun _ _ x => x)

theorem sem_slice {v : Expr} {l u st : Option Expr} {p p' : Pos} {a d : PV} {lo hi sp : Option Int} (hv : SemT G k sc mv σ v a) (hl : SemP G k sc mv σ l lo) (hu : SemP G k sc mv σ u hi) (hst : SemP G k sc mv σ st sp) (h : pslice a lo hi sp = some d) :
    SemE G k sc mv σ (.Subscript v (.Slice l u st p') p) d := fun A s₀ s env W mr R hs F =>
  Subscript_ (wpAny_mono (hv A s₀ s env W mr R hs F) (fun _ s₁ p₁ => wpAny_Slice (wpAny_mono (hl.run A s₀ s₁ env W mr R hs (F.more p₁.1)) (fun _ s₂ p₂ =>
    wpAny_mono (hu.run A s₀ s₂ env W mr R hs ((F.more p₁.1).more p₂.1)) (fun _ s₃ p₃ => wpAny_mono (hst.run A s₀ s₃ env W mr R hs (((F.more p₁.1).more p₂.1).more p₃.1)) (fun _ s₄ p₄ =>
      wpAny_mono (slice_ok ((((F.more p₁.1).more p₂.1).more p₃.1).more p₄.1).low (((p₁.2.ext p₂.1).ext p₃.1).ext p₄.1) p₂.2 p₃.2 p₄.2 h) (fun _ _ p₅ => p₅.back (((p₁.1.trans p₂.1).trans p₃.1).trans p₄.1)) fun _ _ x => x) fun _ _ x => x) fun _ _ x => x) fun _ _ x => x)) fun _ _ x => x)

end
end Mine
end

noncomputable section
open PySem PyProof.Rows
set_option Elab.async false
set_option linter.all false
set_option autoImplicit false
namespace Mine

section
variable {G : Glo} {k : Nat} {sc : Scope} {mv : Option Str} {σ : Sig}

theorem load_builtin {A : Around} {s₀ s : Shared} {env : Env} {W : Addr → Prop} {mr : Option Addr} {E : Value → Shared → Prop} {x : Str} {p : Pos} {v : Value} {Q : Value → Shared → Prop} (hs : env.scope = sc) (F : Frame G s₀ env W mv mr σ s)
    (hk : sc.names.lookup x = some .globalImplicit) (hg : G.mg x = none) (hb : G.mb x = some v) (hd : (x == ("__debug__" : Str)) = false) (h : Q v s) : wpAny G.M A (eval (.Name x p) env) Q E s :=
  Calls.Name_function_global F.fk (by unfold Env.kindOf; rw [hs]; exact hk) (Calls.loadGlobal_builtin (by rw [F.gl]; exact F.base.g) hg (by rw [F.bl]; exact F.base.b) hb h) hd

theorem sem_len {e : Expr} {p p' : Pos} {a d : PV} (hk : sc.names.lookup ("len" : Str) = some .globalImplicit) (hn : notStarred e = true) (he : SemT G k sc mv σ e a) (h : plen a = some d) :
    SemE G k sc mv σ (.Call (.Name "len" p') [e] [] p) d := fun A s₀ s env W mr R hs F =>
  Call_ (load_builtin hs F hk (F.base.blt _ (by simp)) F.base.len (by decide) (callWith_builtin1 (args_cons (wpAny_mono (he A s₀ s env W mr R hs F) (fun _ s₁ p₁ =>
    args_nil (wpAny_mono (len_ok p₁.2 h) (fun _ _ p₂ => p₂.back p₁.1) fun _ _ x => x)) fun _ _ x => x) (starEach_plain hn _ _)) (starEach_plain hn _ _) rfl))

theorem sem_sum {e : Expr} {p p' : Pos} {ds : List PV} {ns : List Int} (hk : sc.names.lookup ("sum" : Str) = some .globalImplicit) (hn : notStarred e = true) (he : SemT G k sc mv σ e (.lst ds)) (h : pints ds = some ns) :
    SemE G k sc mv σ (.Call (.Name "sum" p') [e] [] p) (.int ns.sum) := fun A s₀ s env W mr R hs F =>
  Call_ (load_builtin hs F hk (F.base.blt _ (by simp)) F.base.sum (by decide) (callWith_builtin1 (args_cons (wpAny_mono (he A s₀ s env W mr R hs F) (fun _ s₁ p₁ =>
    args_nil (wpAny_mono (sum_ok R.hd p₁.2 h) (fun _ _ p₂ => p₂.back p₁.1) fun _ _ x => x)) fun _ _ x => x) (starEach_plain hn _ _)) (starEach_plain hn _ _) rfl))

theorem call_of_ok {A : Around} {W : Addr → Prop} {s : Shared} {f : Str} {ds : List PV} {d : PV} {vs : List Value} {a : Addr} (h : CallOK G k f ds d) (R : Room k A) (B : Base G s.heap) (hb : AllBare s.gens) (lo : Low W s)
    (hf : G.mg f = some (.ref a)) (r : GReps G W s.heap vs ds) : wpAny G.M A (call (.ref a) vs) (Post G W d s) No s := by
  refine wpAny_call (codeAny_mono (h A s W vs a R B hb lo hf r) fun r s' q => ?_)
  obtain ⟨v, rfl, q⟩ := q
  exact q

theorem spliced_any {A : Around} {E : Value → Shared → Prop} {s : Shared} {es : List Expr} {env : Env} {pos : Pos} {Q : Args → Shared → Prop} {f : Value}
    (hn : es.all notStarred = true)
    (h : wpAny G.M A (spliced (backTo pos (starEach es env))) (fun vs s' => Q ⟨vs, []⟩ s') E s) : wpAny G.M A (evalArgs f true (backTo pos (starEach es env)) []) Q E s := by
  cases es with
  | nil => exact fun Γ p hΓ => PySem.evalArgs_none (M := G.M) (A := A) (E := E) (Q := Q) (h Γ p hΓ) Γ p hΓ
  | cons e r =>
    have hn' : notStarred e = true := by simp at hn; exact hn.1
    rw [starEach_plain hn'] at h ⊢
    exact Calls.evalArgs_plain h

theorem sem_call {f : Str} {es : List Expr} {ds : List PV} {d : PV} {p p' : Pos} {x : Arguments × List Stmt × Scope} (hk : sc.names.lookup f = some .globalImplicit) (hd : (f == ("__debug__" : Str)) = false) (hfn : G.fns.lookup f = some x)
    (hn : es.all notStarred = true) (he : SemEs G k sc mv σ es ds) (h : CallOK G k f ds d) : SemE G k sc mv σ (.Call (.Name f p') es [] p) d := fun A s₀ s env W mr R hs F => by
  obtain ⟨a, o, pm, cd, doc, h1, h2, h3, h4⟩ := F.base.fn f x hfn
  refine Call_ (Calls.Name_function_global F.fk (by unfold Env.kindOf; rw [hs]; exact hk) (Calls.loadGlobal_global (by rw [F.gl]; exact F.base.g) h1 ?_) hd)
  refine Calls.callWith_function (o := o) (fd := _) (spliced_any hn (wpAny_mono (he A s₀ s env W mr p R hs F) (fun vs s₁ p₁ => ⟨⟨p₁.1.keep _ _ h2, h3⟩, ?_⟩) fun _ _ x => x))
  exact wpAny_mono (call_of_ok h R (F.more p₁.1).base (F.more p₁.1).bare (F.more p₁.1).low h1 p₁.2) (fun _ _ p₂ => p₂.back p₁.1) fun _ _ x => x

theorem sem_join {e : Expr} {n : Nat} {x : Str} {p₀ apos p : Pos} {ds : List PV} {xs : List Str} (hn : notStarred e = true) (hp : (apos.endLine == p.line) = true) (he : SemT G k sc mv σ e (.lst ds)) (h : pstrs ds = some xs)
    (hsz : (xs.map (·.length)).sum + xs.length * x.length ≤ 2 ^ 20) : SemE G k sc mv σ (.Call (.Attribute (.Constant (.str x) n p₀) "join" apos) [e] [] p) (.str (Txt.join x xs)) := fun A s₀ s env W mr R hs F =>
  Call_method1 rfl (starEach_plain hn _ _) hp (wpAny_mono (sem_str A s₀ s env W mr R hs F) (fun ov s₁ p₁ => by
    obtain ⟨t, rfl⟩ := rep_str p₁.2
    exact method1_on PySem.F.plainAttrs_str PySem.F.slot_str_join PySem.F.type_str_join (typeIs_str _ _ _) (fun _ e => nomatch e) (wpAny_mono (he A s₀ s₁ env W mr R hs (F.more p₁.1)) (fun _ s₂ p₂ =>
      wpAny_mono (join_ok p₂.2 h hsz) (fun _ _ p₃ => p₃.back (p₁.1.trans p₂.1)) fun _ _ x => x) fun _ _ x => x)) fun _ _ x => x)

theorem sem_index {e : Expr} {x : Str} {p₀ apos p : Pos} {ds : List PV} {ns : List Int} {i : Int} (hx : σ.lookup x = some (.lst ds)) (hd : (x == ("__debug__" : Str)) = false) (hn : notStarred e = true) (hp : (apos.endLine == p.line) = true) (he : SemE G k sc mv σ e (.int i)) (h : pints ds = some ns)
    (hi : i ∈ ns) (hsz : ds.length ≤ 2 ^ 20) : SemE G k sc mv σ (.Call (.Attribute (.Name x p₀) "index" apos) [e] [] p) (.int (ns.idxOf i : Nat)) := fun A s₀ s env W mr R hs F =>
  Call_method1 rfl (starEach_plain hn _ _) hp (wpAny_mono (sem_nameT hx hd A s₀ s env W mr R hs F) (fun ov s₁ p₁ => by
    obtain ⟨l, vs, n, rfl, ho, q⟩ := p₁.2.list
    refine method1_on PySem.F.plainAttrs_list PySem.F.slot_list_index PySem.F.type_list_index ⟨_, ho, rfl⟩ (fun a e => by cases e; exact ⟨_, ho, rfl⟩) (wpAny_mono (he A s₀ s₁ env W mr R hs (F.more p₁.1)) (fun _ s₂ p₂ => ?_) fun _ _ x => x)
    obtain ⟨t, rfl⟩ := rep_int p₂.2
    exact wpAny_mono (index_ok (p₁.2.ext p₂.1) h hi hsz) (fun _ _ p₃ => p₃.back (p₁.1.trans p₂.1)) fun _ _ x => x) fun _ _ x => x)

noncomputable def tokGet (D : List (PyData × PyData)) (x : Str) : Option PV := match Spec.lookup (.str x) D with
  | some (.int i) => some (PV.int i)
  | none => some PV.none
  | _ => Option.none

theorem sem_get {e : Expr} {x : Str} {p₀ apos p : Pos} {d : PV} (hk : sc.names.lookup ("EXACT_TOKEN_TYPES" : Str) = some .globalImplicit) (hn : notStarred e = true) (hp : (apos.endLine == p.line) = true) (he : SemE G k sc mv σ e (.str x)) (h : tokGet G.tok x = some d) :
    SemE G k sc mv σ (.Call (.Attribute (.Name "EXACT_TOKEN_TYPES" p₀) "get" apos) [e] [] p) d := fun A s₀ s env W mr R hs F =>
  Call_method1 rfl (starEach_plain hn _ _) hp (wpAny_mono (sem_tok hk A s₀ s env W mr hs F) (fun ov s₁ p₁ => by
    obtain ⟨x₁, r₁⟩ := p₁
    cases r₁ with
    | @dct a _ hw T =>
    obtain ⟨lo, kvs, hd, hf⟩ := id T
    refine method1_on PySem.F.plainAttrs_dict PySem.F.slot_dict_get PySem.F.type_dict_get hd.typeIs hd.mapOf.noDict (wpAny_mono (he A s₀ s₁ env W mr R hs (F.more x₁)) (fun _ s₂ p₂ => ?_) fun _ _ x => x)
    obtain ⟨t, rfl⟩ := rep_str p₂.2
    refine wpAny_mono (get_ok (W := fun _ => False) (.dct hw (strTab_at T fun o e => p₂.1.keep _ o e)) h) (fun _ _ p₃ => ⟨(x₁.trans p₂.1).trans p₃.1, ?_⟩) fun _ _ x => x
    have r₃ := p₃.2
    unfold tokGet at h
    split at h
    · cases h; obtain ⟨t', rfl⟩ := rep_int r₃; exact .int _ _
    · cases h; obtain rfl := rep_none r₃; exact .none
    · cases h) fun _ _ x => x)
end
end Mine
end

noncomputable section
open PySem PyProof.Rows
set_option Elab.async false
set_option linter.all false
set_option autoImplicit false
namespace Mine

/- what one step of an iterator may do -/
structure Mvd (Pw : Addr → Prop) (Pg : Nat → Prop) (s s' : Shared) : Prop where
  keep : ∀ b o, ¬ Pw b → s.heap.get? b = some o → s'.heap.get? b = some o
  gens : ∀ (i : Nat) (x : GenState), ¬ Pg i → s.gens[i]? = some x → s'.gens[i]? = some x
  bare : AllBare s.gens → AllBare s'.gens
  os : s'.os = s.os

structure Iter (G : Glo) (A : Around) (W Pw : Addr → Prop) (it : Value) (ds : List PV) (St : Nat → Shared → Prop) : Prop where
  sub : ∀ b, Pw b → W b
  alive : ∀ i s, St i s → ∀ b, Pw b → ∃ o, s.heap.get? b = some o
  frame : ∀ i s s', St i s → (∀ b o, (¬ W b ∨ Pw b) → s.heap.get? b = some o → s'.heap.get? b = some o) → St i s'
  item : ∀ i d s (Q : Option Value → Shared → Prop) (E : Value → Shared → Prop), ds[i]? = some d → St i s → Base G s.heap → AllBare s.gens → Low W s → (∀ v s', Mvd Pw (fun _ => False) s s' → St (i + 1) s' → GRep G W s'.heap v d → Q (some v) s') → wpAny G.M A (pyNext it) Q E s
  done : ∀ s (Q : Option Value → Shared → Prop) (E : Value → Shared → Prop), St ds.length s → Base G s.heap → AllBare s.gens → Low W s → (∀ s', Mvd Pw (fun _ => False) s s' → Q none s') → wpAny G.M A (pyNext it) Q E s
  own : ∀ i s target v (Q : Unit → Shared → Prop) (E : Value → Shared → Prop), St i s → Q () s → wpAny G.M A (letOwnedTupleGo target it v) Q E s
  self : ∀ i s (Q : Value → Shared → Prop) (E : Value → Shared → Prop), St i s → Q it s → wpAny G.M A (pyIter it) Q E s

/- an expression, and its iterator -/
noncomputable def SemI (G : Glo) (k : Nat) (sc : Scope) (mv : Option Str) (σ : Sig) (e : Expr) (ds : List PV) : Prop :=
  ∀ (A : Around) (s₀ s : Shared) (env : Env) (W : Addr → Prop) (mr : Option Addr), Room k A → env.scope = sc → Frame G s₀ env W mv mr σ s →
    wpAny G.M A (eval e env) (fun x s₁ => wpAny G.M A (pyIter x) (fun it s₂ => ∃ Pw, Ext s s₂ ∧ (∀ b, Pw b → s.heap.get? b = none ∧ ∃ o, s₂.heap.get? b = some o) ∧
      ∀ X : Addr → Prop, (∀ b, X b → s₂.heap.get? b = none) → ∃ St, Iter G A (fun a => (W a ∨ Pw a) ∨ X a) Pw it ds St ∧ St 0 s₂) No s₁) No s

theorem letOwned_other {M : Model} {A : Around} {E : Value → Shared → Prop} {s : Shared} {I : Addr} {o : Obj} {T : String} {vs : Array Value} {target : Expr} {v : Value} {Q : Unit → Shared → Prop} (ho : s.heap.get? I = some o) (hc : o.cls = .type T) (hd : o.data = .fields vs)
    (hT : (["enumerate", "zip", "dict_itemiterator", "dict_reverseitemiterator", "odict_iterator", "itertools.zip_longest", "itertools.pairwise"] : List String).contains T = false) (h : Q () s) : wpAny M A (letOwnedTupleGo target (.ref I) v) Q E s := by
  have key : wpAny M A (match (Value.ref I, v) with
    | (.ref r, .ref a) => do
      let o ← load r
      match o.cls, o.data with
      | .type n, .fields vs =>
        if ["enumerate", "zip", "dict_itemiterator", "dict_reverseitemiterator", "odict_iterator", "itertools.zip_longest", "itertools.pairwise"].contains n && vs[0]? == some (rawInt a) then
          rule "for.unpacks-the-owned-tuple"
          updateField r 0 .none
      | _, _ => pure ()
    | _ => pure ()) Q E s := by
    cases v with
    | ref a =>
      refine wpAny_bind (wpAny_load ho ?_)
      rw [hc, hd]
      simp only [hT, Bool.false_and, Bool.false_eq_true, if_false]
      exact wpAny_pure h
    | _ => exact wpAny_pure h
  cases target <;> first | exact wpAny_pure h | exact key

section
variable {G : Glo} {A : Around} {W : Addr → Prop} {s : Shared}

theorem mvd_same {s : Shared} {h' : Heap} {I : Addr} {tk : Nat} (hs : Heap.SameBut I s.heap h') : Mvd (fun b => b = I) (fun _ => False) s { s with heap := h', toks := tk } :=
  ⟨fun b o hb e => (hs.2 b hb).trans e, fun _ _ _ e => e, id, rfl⟩
theorem mvd_extBut {s : Shared} {h' : Heap} {I : Addr} {tk : Nat} (hs : Heap.ExtBut I s.heap h') : Mvd (fun b => b = I) (fun _ => False) s { s with heap := h', toks := tk } :=
  ⟨fun b o hb e => hs b o hb e, fun _ _ _ e => e, id, rfl⟩

theorem iter_list {I l : Addr} {vs : List Value} {ds : List PV} {n : Nat} (hh : A.handled = none) (hI : W I) (hl : ¬ W l) :
    Iter G A W (fun b => b = I) (.ref I) ds (fun i s => s.heap.IsListIter I l i ∧ s.heap.get? l = some (LObj vs n) ∧ GReps G W s.heap vs ds) where
  sub := fun b hb => hb ▸ hI
  alive := fun i s st b hb => by subst hb; obtain ⟨o, ho, _⟩ := st.1; exact ⟨o, ho⟩
  frame := fun i s s' st hk => ⟨st.1.at fun o e => hk _ _ (.inr rfl) e, hk _ _ (.inl hl) st.2.1, st.2.2.keep fun b o hb e => hk b o (.inl hb) e⟩
  item := fun i d s Q E hd st _ _ _ hQ => by
    obtain ⟨h1, h2, h3⟩ := st
    obtain ⟨v, hv, rv⟩ := h3.get hd
    refine wpAny_pyNext_list_item h1 (lobj_list h2) (x := v) (by simpa using hv) fun h' hit hs => ?_
    have m := mvd_same (tk := s.toks) hs
    have up : ∀ b o, ¬ W b → s.heap.get? b = some o → h'.get? b = some o := fun b o hb e => m.keep b o (fun q => hb (q ▸ hI)) e
    exact hQ v _ m ⟨hit, up _ _ hl h2, h3.keep up⟩ (rv.keep up)
  done := fun s Q E st _ _ _ hQ => by
    obtain ⟨h1, h2, h3⟩ := st
    exact wpAny_pyNext_list_end hh h1 (lobj_list h2) (by simp [h3.length]) fun h' hs => hQ _ (mvd_extBut (tk := s.toks) hs)
  own := fun i s target v Q E st hQ => by
    obtain ⟨⟨o, ho, hc, hd⟩, _⟩ := st
    exact letOwned_other ho hc hd (by decide) hQ
  self := fun i s Q E st hQ => wpAny_pyIter_listiter st.1 hQ

theorem iter_tuple {I l : Addr} {vs : List Value} {ds : List PV} {n : Nat} (hh : A.handled = none) (hI : W I) (hl : ¬ W l) :
    Iter G A W (fun b => b = I) (.ref I) ds (fun i s => s.heap.IsTupleIter I l i ∧ s.heap.get? l = some (TObj vs n) ∧ GReps G W s.heap vs ds) where
  sub := fun b hb => hb ▸ hI
  alive := fun i s st b hb => by subst hb; obtain ⟨o, ho, _⟩ := st.1; exact ⟨o, ho⟩
  frame := fun i s s' st hk => ⟨let ⟨o, ho, r⟩ := st.1; ⟨o, hk _ _ (.inr rfl) ho, r⟩, hk _ _ (.inl hl) st.2.1, st.2.2.keep fun b o hb e => hk b o (.inl hb) e⟩
  item := fun i d s Q E hd st _ _ _ hQ => by
    obtain ⟨h1, h2, h3⟩ := st
    obtain ⟨v, hv, rv⟩ := h3.get hd
    refine wpAny_pyNext_tuple_item h1 (tobj_tuple h2) (x := v) (by simpa using hv) fun h' hit hs => ?_
    have m := mvd_same (tk := s.toks) hs
    have up : ∀ b o, ¬ W b → s.heap.get? b = some o → h'.get? b = some o := fun b o hb e => m.keep b o (fun q => hb (q ▸ hI)) e
    exact hQ v _ m ⟨hit, up _ _ hl h2, h3.keep up⟩ (rv.keep up)
  done := fun s Q E st _ _ _ hQ => by
    obtain ⟨h1, h2, h3⟩ := st
    exact wpAny_pyNext_tuple_end hh h1 (tobj_tuple h2) (by simp [h3.length]) fun h' hs => hQ _ (mvd_extBut (tk := s.toks) hs)
  own := fun i s target v Q E st hQ => by
    obtain ⟨⟨o, ho, hc, hd⟩, _⟩ := st
    exact letOwned_other ho hc hd (by decide) hQ
  self := fun i s Q E st hQ => wpAny_pyIter_tupleiter st.1 hQ

noncomputable def upTo (n : Nat) : List PV := (List.range n).map fun (i : Nat) => .int (i : Int)

theorem iter_range {I : Addr} {n : Nat} (hh : A.handled = none) (hI : W I) :
    Iter G A W (fun b => b = I) (.ref I) (upTo n) (fun i s => i ≤ n ∧ IsRangeIter s.heap I i ((n : Int) - i) 1) where
  sub := fun b hb => hb ▸ hI
  alive := fun i s st b hb => by subst hb; exact ⟨_, st.2⟩
  frame := fun i s s' st hk => ⟨st.1, hk _ _ (.inr rfl) st.2⟩
  item := fun i d s Q E hd st _ _ _ hQ => by
    have hlt : i < n := by
      have := (List.getElem?_eq_some_iff.mp hd).1
      simpa [upTo] using this
    have hd' : d = .int i := by simp [upTo, hlt] at hd; exact hd.symm
    subst hd'
    refine wpAny_pyNext_range_item st.2 (by (first | lia | omega)) fun h' hit hs => ?_
    refine hQ _ _ (mvd_same (tk := s.toks + 1) hs) ⟨hlt, ?_⟩ (.int _ _)
    rw [show ((i + 1 : Nat) : Int) = (i : Int) + 1 by (first | lia | omega), show (n : Int) - ((i : Int) + 1) = (n : Int) - i - 1 by (first | lia | omega)]
    exact hit
  done := fun s Q E st _ _ _ hQ => by
    refine wpAny_pyNext_range_end hh st.2 (by simp [upTo]) fun h' hs => hQ _ (mvd_extBut (tk := s.toks) hs)
  own := fun i s target v Q E st hQ => letOwned_other st.2 rfl rfl (by decide) hQ
  self := fun i s Q E st hQ => wpAny_pyIter_rangeiter st.2 hQ

end

section
variable {G : Glo} {k : Nat} {sc : Scope} {mv : Option Str} {σ : Sig}

theorem semI_list {e : Expr} {ds : List PV} (he : SemE G k sc mv σ e (.lst ds)) : SemI G k sc mv σ e ds := fun A s₀ s env W mr R hs F =>
  wpAny_mono (he A s₀ s env W mr R hs F) (fun v s₁ p₁ => by
    obtain ⟨x, r⟩ := p₁
    cases r with
    | @lst a n vs _ hw ho q =>
      refine wpAny_pyIter_list (lobj_list ho) ?_
      have x' : Ext s₁ _ := Ext.push s₁ { cls := .type "list_iterator", data := .fields #[.ref a, .int 0 0] }
      have fr : s.heap.get? s₁.heap.objs.size = none := by
        cases e : s.heap.get? s₁.heap.objs.size with
        | none => rfl
        | some o => have := x.keep _ _ e; rw [get_size] at this; cases this
      have ne : a ≠ s₁.heap.objs.size := Nat.ne_of_lt (Heap.lt_size ho)
      refine ⟨fun b => b = s₁.heap.objs.size, x.trans x', fun b hb => by subst hb; exact ⟨fr, _, Heap.get?_push_size _ rfl⟩, fun X hX => ⟨_,
        iter_list (l := a) (vs := vs) (n := n) R.hd (.inl (.inr rfl)) (fun q => q.elim (fun q => q.elim hw ne) fun q => by have := hX _ q; rw [x'.keep _ _ ho] at this; cases this), ⟨_, Heap.get?_push_size _ rfl, rfl, rfl⟩, x'.keep _ _ ho, ?_⟩⟩
      refine (q.widen fun b o hb h => ?_).ext x'
      rcases h with (h | h) | h
      · exact h
      · exact absurd h (Nat.ne_of_lt (Heap.lt_size hb))
      · have := hX _ h; rw [x'.keep _ _ hb] at this; cases this) fun _ _ x => x

theorem semI_tuple {e : Expr} {ds : List PV} (he : SemE G k sc mv σ e (.tup ds)) : SemI G k sc mv σ e ds := fun A s₀ s env W mr R hs F =>
  wpAny_mono (he A s₀ s env W mr R hs F) (fun v s₁ p₁ => by
    obtain ⟨x, r⟩ := p₁
    cases r with
    | @tup a n vs _ hw ho q =>
      refine wpAny_pyIter_tuple (tobj_tuple ho) ?_
      have x' : Ext s₁ _ := Ext.push s₁ { cls := .type "tuple_iterator", data := .fields #[.ref a, .int 0 0] }
      have fr : s.heap.get? s₁.heap.objs.size = none := by
        cases e : s.heap.get? s₁.heap.objs.size with
        | none => rfl
        | some o => have := x.keep _ _ e; rw [get_size] at this; cases this
      have ne : a ≠ s₁.heap.objs.size := Nat.ne_of_lt (Heap.lt_size ho)
      refine ⟨fun b => b = s₁.heap.objs.size, x.trans x', fun b hb => by subst hb; exact ⟨fr, _, Heap.get?_push_size _ rfl⟩, fun X hX => ⟨_,
        iter_tuple (l := a) (vs := vs) (n := n) R.hd (.inl (.inr rfl)) (fun q => q.elim (fun q => q.elim hw ne) fun q => by have := hX _ q; rw [x'.keep _ _ ho] at this; cases this), ⟨_, Heap.get?_push_size _ rfl, rfl, rfl⟩, x'.keep _ _ ho, ?_⟩⟩
      refine (q.widen fun b o hb h => ?_).ext x'
      rcases h with (h | h) | h
      · exact h
      · exact absurd h (Nat.ne_of_lt (Heap.lt_size hb))
      · have := hX _ h; rw [x'.keep _ _ hb] at this; cases this) fun _ _ x => x

theorem semI_range {e : Expr} {p p' : Pos} {n : Int} (hk : sc.names.lookup ("range" : Str) = some .globalImplicit) (hn : notStarred e = true) (he : SemE G k sc mv σ e (.int n)) (h0 : 0 ≤ n) (h1 : n < 2 ^ 62) :
    SemI G k sc mv σ (.Call (.Name "range" p') [e] [] p) (upTo n.toNat) := fun A s₀ s env W mr R hs F =>
  Call_ (load_builtin hs F hk (F.base.blt _ (by simp)) F.base.range (by decide) (PyProof.Rows.callWith_type1 (args_cons (wpAny_mono (he A s₀ s env W mr R hs F) (fun _ s₁ p₁ => args_nil (by
    obtain ⟨x, r⟩ := p₁
    obtain ⟨t, rfl⟩ := rep_int r
    refine call_range_1 ?_
    refine wpAny_pyIter_range (IsRange.new ..) (small_one (by decide) (by decide) (by (first | lia | omega)) h1) ?_
    have hsz : Builtin.Range.rangeSize 0 n 1 = n := by rw [rangeSize_one]; split <;> (first | lia | omega)
    rw [hsz]
    generalize hs2 : ({ s₁ with heap := s₁.heap.push { cls := Value.type "range", data := Data.fields #[Value.int 0 s₁.toks, Value.int n t, Value.int 1 (s₁.toks + 1)] }, toks := s₁.toks + 1 + 1 } : Shared) = s₂
    have x2 : Ext s₁ s₂ := by rw [← hs2]; exact (Ext.push s₁ _).toks _
    have x3 : Ext s₂ _ := Ext.push s₂ { cls := .type "range_iterator", data := .fields #[rawInt 0, rawInt n, rawInt 1] }
    have fr : s.heap.get? s₂.heap.objs.size = none := by
      cases e : s.heap.get? s₂.heap.objs.size with
      | none => rfl
      | some o => have := (x.trans x2).keep _ _ e; rw [get_size] at this; cases this
    subst hs2
    refine ⟨fun b => b = _, (x.trans x2).trans x3, fun b hb => by subst hb; exact ⟨fr, _, Heap.get?_push_size _ rfl⟩, fun X hX => ⟨_, iter_range R.hd (.inl (.inr rfl)), Nat.zero_le _, ?_⟩⟩
    rw [show ((0 : Nat) : Int) = 0 from rfl, show ((n.toNat : Int) - 0) = n by (first | lia | omega)]
    exact Heap.get?_push_size _ rfl)) fun _ _ x => x) (starEach_plain hn _ _)) (starEach_plain hn _ _) rfl))
end
end Mine
end

noncomputable section
open PySem PyProof.Rows
set_option Elab.async false
set_option linter.all false
set_option autoImplicit false
namespace Mine

structure FnFrame (G : Glo) (s₀ : Shared) (W₀ : Addr → Prop) (env : Env) (W : Addr → Prop) (mv : Option Str) (mr : Option Addr) (σ : Sig) (s : Shared) : Prop extends Frame G s₀ env W mv mr σ s where
  hc : ∀ x c, env.cells.lookup x = some c → s₀.heap.get? c = none
  hcell : ∀ x, env.kindOf x = some .cell → ∃ c, env.cells.lookup x = some c
  sup : ∀ a, W₀ a → W a
  w0 : Low W₀ s₀
  mn : mv = none → mr = none

inductive PFlow where
  | next
  | ret (d : PV)

noncomputable def FlowOk (G : Glo) (W₀ : Addr → Prop) (s' : Shared) : Flow → PFlow → Prop
  | .next, .next => True
  | .ret v, .ret d => GRep G W₀ s'.heap v d
  | _, _ => False

noncomputable def Stp (mv : Option Str) (mr : Option Addr) (W : Addr → Prop) (mv' : Option Str) (mr' : Option Addr) (W' : Addr → Prop) : Prop :=
  (mv = mv' ∧ mr = mr' ∧ W = W') ∨ (mv = none ∧ mv' ≠ none)

inductive EndS (G : Glo) (s₀ : Shared) (W₀ : Addr → Prop) (env : Env) (W : Addr → Prop) (mv : Option Str) (mr : Option Addr) (s : Shared) (mv' : Option Str) (σ' : Sig) (fl : PFlow) (f : Flow) (s' : Shared) : Prop
  | mk (W' : Addr → Prop) (mr' : Option Addr) : FnFrame G s₀ W₀ env W' mv' mr' σ' s' → Stp mv mr W mv' mr' W' → ExtS (Own env mr') s s' → FlowOk G W₀ s' f fl → EndS G s₀ W₀ env W mv mr s mv' σ' fl f s'

noncomputable def SemS (G : Glo) (k : Nat) (sc : Scope) (mv : Option Str) (σ : Sig) (st : Stmt) (mv' : Option Str) (σ' : Sig) (fl : PFlow) : Prop :=
  ∀ (A : Around) (s₀ : Shared) (W₀ : Addr → Prop) (s : Shared) (env : Env) (W : Addr → Prop) (mr : Option Addr), Room k A → env.scope = sc → FnFrame G s₀ W₀ env W mv mr σ s →
    wpAny G.M A (exec st env) (EndS G s₀ W₀ env W mv mr s mv' σ' fl) No s
noncomputable def SemSs (G : Glo) (k : Nat) (sc : Scope) (mv : Option Str) (σ : Sig) (st : List Stmt) (mv' : Option Str) (σ' : Sig) (fl : PFlow) : Prop :=
  ∀ (A : Around) (s₀ : Shared) (W₀ : Addr → Prop) (s : Shared) (env : Env) (W : Addr → Prop) (mr : Option Addr), Room k A → env.scope = sc → FnFrame G s₀ W₀ env W mv mr σ s →
    wpAny G.M A (execs st env) (EndS G s₀ W₀ env W mv mr s mv' σ' fl) No s

section
variable {G : Glo} {s₀ : Shared} {W₀ : Addr → Prop} {env : Env} {W : Addr → Prop} {mv : Option Str} {mr : Option Addr} {σ : Sig} {s : Shared}

theorem FnFrame.of (F : FnFrame G s₀ W₀ env W mv mr σ s) {σ' : Sig} {s' : Shared} (F' : Frame G s₀ env W mv mr σ' s') : FnFrame G s₀ W₀ env W mv mr σ' s' := ⟨F', F.hc, F.hcell, F.sup, F.w0, F.mn⟩
theorem FnFrame.more (F : FnFrame G s₀ W₀ env W mv mr σ s) {s' : Shared} (x : Ext s s') : FnFrame G s₀ W₀ env W mv mr σ s' := F.of (F.toFrame.more x)

theorem FnFrame.kind (F : FnFrame G s₀ W₀ env W mv mr σ s) {x : Str} (h : env.kindOf x = some .local ∨ env.kindOf x = some .cell) :
    env.kindOf x = some .local ∨ (env.kindOf x = some .cell ∧ ∃ c, env.cells.lookup x = some c ∧ s₀.heap.get? c = none) := by
  rcases h with h | h
  · exact .inl h
  · obtain ⟨c, hc⟩ := F.hcell x h
    exact .inr ⟨h, c, hc, F.hc x c hc⟩

/- a plain name may be stored -/
noncomputable def okName (sc : Scope) (mv : Option Str) (x : Str) : Prop := (sc.names.lookup x = some .local ∨ sc.names.lookup x = some .cell) ∧ mv ≠ some x

theorem FnFrame.put (F : FnFrame G s₀ W₀ env W mv mr σ s) {A : Around} {E : Value → Shared → Prop} {sc : Scope} (hs : env.scope = sc) {x : Str} {v : Value} {d : PV} {Q : Unit → Shared → Prop} (hx : okName sc mv x) (hv : GRep G W s.heap v d)
    (h : ∀ s', FnFrame G s₀ W₀ env W mv mr (put σ x d) s' → ExtS (Own env none) s s' → Q () s') : wpAny G.M A (storeName env x v) Q E s :=
  F.toFrame.store (F.kind (by subst hs; exact hx.1)) hx.2 hv fun s' F' e => h s' (F.of F') e

/- the frame's own stores leave trees alone -/
theorem Rep.extS {v : Value} {d : PV} {s' : Shared} (F : Frame G s₀ env W mv mr σ s) (r : GRep G W s.heap v d) (x : ExtS (Own env mr) s s') : GRep G W s'.heap v d :=
  r.keep fun b o hb e => x.keep b o (fun q => by
    rcases q with q | ⟨y, q⟩ | q
    · exact hb (q ▸ F.wl)
    · exact hb (F.wc y b q)
    · exact hb (F.mu b q).1) e
theorem Reps.extS {vs : List Value} {ds : List PV} {s' : Shared} (F : Frame G s₀ env W mv mr σ s) (r : GReps G W s.heap vs ds) (x : ExtS (Own env mr) s s') : GReps G W s'.heap vs ds :=
  r.keep fun b o hb e => x.keep b o (fun q => by
    rcases q with q | ⟨y, q⟩ | q
    · exact hb (q ▸ F.wl)
    · exact hb (F.wc y b q)
    · exact hb (F.mu b q).1) e

noncomputable def putAll : Sig → List Str → List PV → Sig
  | σ, x :: xs, d :: ds => putAll (Mine.put σ x d) xs ds
  | σ, _, _ => σ

theorem FnFrame.putAll {A : Around} {E : Value → Shared → Prop} {sc : Scope} {Q : Unit → Shared → Prop} (hs : env.scope = sc) : ∀ (l : List (Str × (Value → Sem Unit))) (vs : List Value) (ds : List PV) (σ : Sig) (s : Shared), FnFrame G s₀ W₀ env W mv mr σ s →
      (∀ q ∈ l, ∀ v s (Q : Unit → Shared → Prop), wpAny G.M A (storeName env q.1 v) Q E s → wpAny G.M A (q.2 v) Q E s) → (∀ q ∈ l, okName sc mv q.1) → l.length = vs.length → GReps G W s.heap vs ds →
      (∀ s', FnFrame G s₀ W₀ env W mv mr (Mine.putAll σ (l.map (·.1)) ds) s' → ExtS (Own env mr) s s' → Q () s') → wpAny G.M A (assignInOrder (l.map (·.2)) vs) Q E s
  | [], [], [], σ, s, F, _, _, _, _, h => wpAny_pure (h s F (.refl _ _))
  | x :: xs, v :: vs, d :: ds, σ, s, F, hst, hx, hl, r, h => by
    cases r with
    | cons rv r =>
      show wpAny G.M A (do holding vs (x.2 v); assignInOrder (xs.map (·.2)) vs) Q E s
      refine wpAny_bind (wpAny_holding (hst x (List.mem_cons_self ..) v s _ (F.put hs (hx x (List.mem_cons_self ..)) rv fun s' F' e => ?_)))
      have e' : ExtS (Own env mr) s s' := e.mono fun b q => q.up
      exact FnFrame.putAll hs xs vs ds _ s' F' (fun y hy => hst y (List.mem_cons_of_mem _ hy)) (fun y hy => hx y (List.mem_cons_of_mem _ hy)) (by simpa using hl) (Reps.extS F.toFrame r e') fun s'' F'' e'' => h s'' F'' (e'.trans e'')
  | [], _ :: _, _, _, _, _, _, _, hl, _, _ => by simp at hl
  | _ :: _, [], _, _, _, _, _, _, hl, _, _ => by simp at hl
  | [], [], _ :: _, _, _, _, _, _, _, r, _ => by cases r
  | _ :: _, _ :: _, [], _, _, _, _, _, _, r, _ => by cases r

end

section
variable {G : Glo} {k : Nat} {sc : Scope} {mv mv' : Option Str} {σ σ' : Sig}

theorem end_same {s₀ : Shared} {W₀ : Addr → Prop} {env : Env} {W : Addr → Prop} {mr : Option Addr} {s s' : Shared} (F : FnFrame G s₀ W₀ env W mv mr σ' s') (x : ExtS (Own env mr) s s') : EndS G s₀ W₀ env W mv mr s mv σ' .next .next s' :=
  ⟨W, mr, F, .inl ⟨rfl, rfl, rfl⟩, x, trivial⟩

theorem semSs_nil : SemSs G k sc mv σ [] mv σ .next := fun A s₀ W₀ s env W mr R hs F => wpAny_execs_nil (end_same F (.refl _ _))

theorem FnFrame.ownUp {s₀ : Shared} {W₀ : Addr → Prop} {env : Env} {W W' : Addr → Prop} {mr mr' : Option Addr} {s : Shared} (F : FnFrame G s₀ W₀ env W mv mr σ s) (h : Stp mv mr W mv' mr' W') : ∀ b, Own env mr b → Own env mr' b := by
  rcases h with ⟨_, rfl, _⟩ | ⟨h1, _⟩
  · exact fun _ q => q
  · have := F.mn h1; subst this; exact fun _ q => q.up
theorem Stp.trans {mv'' : Option Str} {W W' W'' : Addr → Prop} {mr mr' mr'' : Option Addr} (h : Stp mv mr W mv' mr' W') (h' : Stp mv' mr' W' mv'' mr'' W'') : Stp mv mr W mv'' mr'' W'' := by
  rcases h with ⟨rfl, rfl, rfl⟩ | ⟨h1, h2⟩
  · exact h'
  · rcases h' with ⟨rfl, rfl, rfl⟩ | ⟨h3, h4⟩
    · exact .inr ⟨h1, h2⟩
    · exact .inr ⟨h1, h4⟩

theorem EndS.back {s₀ : Shared} {W₀ : Addr → Prop} {env : Env} {W W' : Addr → Prop} {mr mr' : Option Addr} {s s' : Shared} {mv'' : Option Str} {σ'' : Sig} {fl : PFlow} {f : Flow} {s'' : Shared} (F' : FnFrame G s₀ W₀ env W' mv' mr' σ' s') (h : Stp mv mr W mv' mr' W')
    (x : ExtS (Own env mr') s s') (q : EndS G s₀ W₀ env W' mv' mr' s' mv'' σ'' fl f s'') : EndS G s₀ W₀ env W mv mr s mv'' σ'' fl f s'' := by
  obtain ⟨W'', mr'', F'', h', x', fl⟩ := q
  exact ⟨W'', mr'', F'', h.trans h', (x.mono (F'.ownUp h')).trans x', fl⟩

theorem semSs_cons {st : Stmt} {rest : List Stmt} {mv'' : Option Str} {σ'' : Sig} {fl : PFlow} (h : SemS G k sc mv σ st mv' σ' .next) (hr : SemSs G k sc mv' σ' rest mv'' σ'' fl) : SemSs G k sc mv σ (st :: rest) mv'' σ'' fl := fun A s₀ W₀ s env W mr R hs F =>
  wpAny_execs_cons (wpAny_mono (h A s₀ W₀ s env W mr R hs F) (fun f s' q => by
    obtain ⟨W', mr', F', h1, x, fl⟩ := q
    cases f with
    | next => exact wpAny_mono (hr A s₀ W₀ s' env W' mr' R hs F') (fun _ _ q => q.back F' h1 x) fun _ _ x => x
    | _ => exact fl.elim) fun _ _ x => x)
theorem semSs_ret {st : Stmt} {rest : List Stmt} {d : PV} (h : SemS G k sc mv σ st mv' σ' (.ret d)) : SemSs G k sc mv σ (st :: rest) mv' σ' (.ret d) := fun A s₀ W₀ s env W mr R hs F =>
  wpAny_execs_cons (wpAny_mono (h A s₀ W₀ s env W mr R hs F) (fun f s' q => by
    obtain ⟨W', mr', F', h1, x, fl⟩ := q
    cases f with
    | ret v => exact ⟨W', mr', F', h1, x, fl⟩
    | _ => exact fl.elim) fun _ _ x => x)

theorem semS_assign {x : Str} {e : Expr} {p p' : Pos} {d : PV} (hx : okName sc mv x) (he : SemE G k sc mv σ e d) (hs : ∀ env : Env, env.scope = sc → swapsWith e (some (.Name x p')) p.line env = pure false) :
    SemS G k sc mv σ (.Assign [.Name x p'] e p) mv (put σ x d) .next := fun A s₀ W₀ s env W mr R hsc F =>
  wpAny_Assign_Name (wpAny_mono (he A s₀ s env W mr R hsc F.toFrame) (fun _ s₁ p₁ => (F.more p₁.1).put hsc hx p₁.2 fun s' F' e => end_same F' ((p₁.1.toS _).trans (e.mono fun b q => q.up))) fun _ _ x => x) (hs env hsc)

theorem semS_return {e : Expr} {p : Pos} {d : PV} (he : SemT G k sc mv σ e d) : SemS G k sc mv σ (.Return (some e) p) mv σ (.ret d) := fun A s₀ W₀ s env W mr R hsc F =>
  wpAny_Return_some (wpAny_mono (he A s₀ s env W mr R hsc F.toFrame) (fun v s₁ p₁ => by
    refine ⟨W, mr, F.more p₁.1, .inl ⟨rfl, rfl, rfl⟩, p₁.1.toS _, ?_⟩
    have hw : ∀ a o, s₁.heap.get? a = some o → W₀ a → W a := fun a o _ q => F.sup a q
    rcases p₁.2 with r | ⟨r, vs, ds, n, h1, rfl, rfl, h4, h5⟩
    · exact r.widen hw
    · refine .lst (fun q => ?_) h4 (h5.widen hw)
      obtain ⟨_, h6, _⟩ := F.mu r h1
      obtain ⟨o, h7⟩ := F.w0 r q
      rw [h6] at h7; cases h7) fun _ _ x => x)

theorem semS_if {t : Expr} {b o : List Stmt} {p : Pos} {c : Bool} {fl : PFlow} (ht : SemB G k sc mv σ t c) (hb : c = true → SemSs G k sc mv σ b mv' σ' fl) (ho : c = false → SemSs G k sc mv σ o mv' σ' fl) : SemS G k sc mv σ (.If t b o p) mv' σ' fl := fun A s₀ W₀ s env W mr R hsc F =>
  wpAny_If (wpAny_mono (ht A s₀ s env W mr R hsc F.toFrame) (fun c' s₁ p₁ => by
    obtain ⟨rfl, x⟩ := p₁
    have F₁ := F.more x
    cases c' with
    | true => exact wpAny_mono (hb rfl A s₀ W₀ s₁ env W mr R hsc F₁) (fun _ _ q => q.back F₁ (.inl ⟨rfl, rfl, rfl⟩) (x.toS _)) fun _ _ x => x
    | false => exact wpAny_mono (ho rfl A s₀ W₀ s₁ env W mr R hsc F₁) (fun _ _ q => q.back F₁ (.inl ⟨rfl, rfl, rfl⟩) (x.toS _)) fun _ _ x => x) fun _ _ x => x)

theorem ext_of_extBut {s : Shared} {h' : Heap} (h : Heap.ExtBut s.heap.objs.size s.heap h') : Ext s { s with heap := h' } :=
  ⟨fun b o e => h b o (Nat.ne_of_lt (Heap.lt_size e)) e, fun _ _ e => e, id, rfl⟩

noncomputable def nameOf : Expr → Option Str
  | .Name x _ => some x
  | _ => none
theorem nameOf_eq {e : Expr} {x : Str} (h : nameOf e = some x) : ∃ p, e = .Name x p := by
  cases e <;> first | exact none_ne h | exact ⟨_, congrArg (fun y => Expr.Name y _) (Option.some.inj h)⟩
noncomputable def names : List Expr → Option (List Str)
  | [] => some []
  | e :: r => (nameOf e).bind fun x => (names r).map (x :: ·)
theorem names_each (env : Env) {es : List Expr} : ∀ {xs : List Str}, names es = some xs → ∃ l : List (Str × (Value → Sem Unit)), l.map (·.1) = xs ∧ (assignEach es env).map (·.2) = l.map (·.2) ∧ (assignEach es env).length = xs.length ∧ (assignEach es env).findIdx? (·.1) = none ∧
    ∀ q ∈ l, ∀ {M : Model} {A : Around} {E : Value → Shared → Prop} v s (Q : Unit → Shared → Prop), wpAny M A (storeName env q.1 v) Q E s → wpAny M A (q.2 v) Q E s := by
  induction es with
  | nil =>
    intro xs h
    rw [← Option.some.inj h]
    exact ⟨[], rfl, rfl, rfl, rfl, fun _ h => nomatch h⟩
  | cons e r ih =>
    intro xs h
    obtain ⟨x, hx, h⟩ := Option.bind_eq_some_iff.mp h
    obtain ⟨ys, h1, e1⟩ := Option.map_eq_some_iff.mp h
    obtain ⟨p, rfl⟩ := nameOf_eq hx
    obtain ⟨l, h2, h3, h4, h5, h6⟩ := ih h1
    refine ⟨(x, assign (.Name x p) env) :: l, ?_, ?_, ?_, ?_, fun q hq => ?_⟩
    · rw [← e1, ← h2]; rfl
    · show assign (.Name x p) env :: (assignEach r env).map (·.2) = _
      rw [h3]; rfl
    · rw [← e1]; show (assignEach r env).length + 1 = ys.length + 1; rw [h4]
    · show List.findIdx? (·.1) ((false, assign (.Name x p) env) :: assignEach r env) = none
      rw [List.findIdx?_cons, h5]; rfl
    · rcases List.mem_cons.mp hq with hq | hq
      · intro M A E v s Q h; rw [hq] at h ⊢; exact PyProof.Rows.assign_Name h
      · exact h6 q hq

/- a tuple to names -/
theorem assign_tuple {A : Around} {s₀ : Shared} {W₀ : Addr → Prop} {s : Shared} {env : Env} {W : Addr → Prop} {mr : Option Addr} {es : List Expr} {xs : List Str} {n : Nat} {p : Pos} {v : Value} {ds : List PV} {Q : Unit → Shared → Prop} (R : Room k A) (hsc : env.scope = sc)
    (F : FnFrame G s₀ W₀ env W mv mr σ s) (hn : names es = some xs) (hl : xs.length = ds.length) (hx : ∀ x ∈ xs, okName sc mv x) (r : GRep G W s.heap v (.tup ds))
    (h : ∀ s', FnFrame G s₀ W₀ env W mv mr (putAll σ xs ds) s' → ExtS (Own env mr) s s' → Q () s') : wpAny G.M A (assign (.Tuple es n p) env v) Q No s := by
  cases r with
  | @tup a m vs _ hw ho q =>
    obtain ⟨l, h1, h2, h3, h4, h5⟩ := names_each env hn
    refine wpAny_assign_Tuple R.hd (tobj_tuple ho) (by simp [h3, hl, q.length]) h4 fun h' he => ?_
    have x := ext_of_extBut he
    rw [h2]
    refine FnFrame.putAll hsc l vs ds σ _ (F.more x) (fun q hq v s Q => h5 q hq v s Q) (fun q hq => hx _ (by rw [← h1]; exact List.mem_map_of_mem hq)) (by rw [q.length, ← hl, ← h1, List.length_map]) (q.ext x) fun s' F' e => ?_
    rw [h1] at F'
    exact h s' F' ((x.toS _).trans e)

theorem semS_unpack {es : List Expr} {xs : List Str} {n : Nat} {e : Expr} {p p' : Pos} {ds : List PV} (hn : names es = some xs) (hl : xs.length = ds.length) (hx : ∀ x ∈ xs, okName sc mv x) (he : SemE G k sc mv σ e (.tup ds))
    (hs : ∀ env : Env, env.scope = sc → swapsWithSole [.Tuple es n p'] e p.line env = pure false) (hw : ∀ env : Env, env.scope = sc → swappedStores [.Tuple es n p'] e env = pure none) :
    SemS G k sc mv σ (.Assign [.Tuple es n p'] e p) mv (putAll σ xs ds) .next := fun A s₀ W₀ s env W mr R hsc F =>
  Assign_Tuple (wpAny_mono (he A s₀ s env W mr R hsc F.toFrame) (fun v s₁ p₁ => assign_tuple R hsc (F.more p₁.1) hn hl hx p₁.2 fun s' F' e => end_same F' ((p₁.1.toS _).trans e)) fun _ _ x => x) (hs env hsc) (hw env hsc)

/- the same where the stores are exchanged: from behind -/
theorem semS_swapped {es : List Expr} {xs : List Str} {n : Nat} {e : Expr} {p p' : Pos} {ds : List PV} (hl : xs.length = ds.length) (hx : ∀ x ∈ xs, okName sc mv x) (he : SemE G k sc mv σ e (.tup ds))
    (hs : ∀ env : Env, env.scope = sc → swapsWithSole [.Tuple es n p'] e p.line env = pure false) (hw : ∀ env : Env, env.scope = sc → swappedStores [.Tuple es n p'] e env = pure (some xs)) :
    SemS G k sc mv σ (.Assign [.Tuple es n p'] e p) mv (putAll σ xs.reverse ds.reverse) .next := fun A s₀ W₀ s env W mr R hsc F =>
  Assign_Tuple_swapped (names := xs) (wpAny_mono (he A s₀ s env W mr R hsc F.toFrame) (fun v s₁ p₁ => by
    obtain ⟨x₁, r₁⟩ := p₁
    cases r₁ with
    | @tup a m vs _ hwa ho q =>
      have hlen : xs.length = vs.toArray.size := by simp [hl, q.length]
      rw [hlen]
      refine wpAny_unpackItems_tuple R.hd (tobj_tuple ho) fun h' he => ?_
      have x := ext_of_extBut he
      have e1 : xs.reverse.map (fun n => bindName env n) = (xs.reverse.map fun n => (n, bindName env n)).map (·.2) := by simp
      rw [e1]
      have rev : ∀ {h : Heap} {vs : List Value} {ds : List PV}, GReps G W h vs ds → GReps G W h vs.reverse ds.reverse := by
        intro h vs ds r
        induction vs generalizing ds with
        | nil => cases r; exact .nil
        | cons v vs ih =>
          cases r with
          | cons a b => simp only [List.reverse_cons]; exact (ih b).append (.cons a .nil)
      refine FnFrame.putAll hsc _ _ ds.reverse σ _ ((F.more x₁).more x) (fun q hq v s Q h => ?_) (fun q hq => ?_) (by simpa using hlen) (rev (q.ext x)) fun s' F' e => ?_
      · obtain ⟨y, hy, rfl⟩ := List.mem_map.mp hq
        exact wpAny_bindName h
      · obtain ⟨y, hy, rfl⟩ := List.mem_map.mp hq
        exact hx y (List.mem_reverse.mp hy)
      · have e2 : (xs.reverse.map fun n => (n, bindName env n)).map (·.1) = xs.reverse := by rw [List.map_map]; exact List.map_id xs.reverse
        rw [e2] at F'
        exact end_same F' (((x₁.trans x).toS _).trans e)) fun _ _ x => x) (hs env hsc) (hw env hsc)

/- x += e on ints -/
theorem semS_aug {x : Str} {e : Expr} {p p' : Pos} {op : Operator} {i j r : Int} (hx : okName sc mv x) (hd : (x == ("__debug__" : Str)) = false) (hv : σ.lookup x = some (.int i)) (he : SemE G k sc mv σ e (.int j)) (h : (op = .Add ∧ r = i + j) ∨ (op = .Sub ∧ r = i - j)) :
    SemS G k sc mv σ (.AugAssign (.Name x p') op e p) mv (put σ x (.int r)) .next := fun A s₀ W₀ s env W mr R hsc F =>
  wpAny_AugAssign_Name (F.toFrame.load hv fun v V => wpAny_mono (he A s₀ s env W mr R hsc F.toFrame) (fun u s₁ p₁ => by
    obtain ⟨t, rfl⟩ := rep_int (V.repT.rep (by intro ds; nofun))
    obtain ⟨x₁, r₁⟩ := p₁
    obtain ⟨t', rfl⟩ := rep_int r₁
    have key : wpAny G.M A (storeName env x (.int r s₁.toks)) (fun _ => EndS G s₀ W₀ env W mv mr s mv (put σ x (.int r)) .next .next) No { s₁ with toks := s₁.toks + 1 } :=
      ((F.more x₁).more (Ext.tok s₁ _)).put hsc hx (.int _ _) fun s' F' e => end_same F' (((x₁.trans (Ext.tok s₁ _)).toS _).trans (e.mono fun b q => q.up))
    rcases h with ⟨rfl, rfl⟩ | ⟨rfl, rfl⟩
    · exact iadd_int key
    · exact isub_int key) fun _ _ x => x)
end
end Mine
end

noncomputable section
open PySem PyProof.Rows
set_option Elab.async false
set_option linter.all false
set_option autoImplicit false
namespace Mine

theorem put_put : ∀ (σ : Sig) (x : Str) (d e : PV), put (put σ x d) x e = put σ x e
  | [], x, d, e => by simp [put]
  | (y, f) :: r, x, d, e => by
    by_cases h : x = y
    · subst h; simp [put]
    · simp [put, h, put_put r x d e]

section
variable {G : Glo} {k : Nat} {sc : Scope} {mv mv' : Option Str} {σ σ' : Sig}

/- an expression whose value is a list made just now -/
noncomputable def SemF (G : Glo) (k : Nat) (sc : Scope) (mv : Option Str) (σ : Sig) (e : Expr) (ds : List PV) : Prop :=
  ∀ (A : Around) (s₀ s : Shared) (env : Env) (W : Addr → Prop) (mr : Option Addr), Room k A → env.scope = sc → Frame G s₀ env W mv mr σ s →
    wpAny G.M A (eval e env) (fun v s' => Ext s s' ∧ ∃ r vs n, v = .ref r ∧ s.heap.get? r = none ∧ s'.heap.get? r = some (LObj vs n) ∧ GReps G (fun a => W a ∨ a = r) s'.heap vs ds) No s

theorem fresh_of_ext {s s' : Shared} (x : Ext s s') : s.heap.get? s'.heap.objs.size = none := by
  cases e : s.heap.get? s'.heap.objs.size with
  | none => rfl
  | some o => have := x.keep _ _ e; rw [get_size] at this; cases this

theorem semF_nil {p : Pos} : SemF G k sc mv σ (.List [] p) [] := fun A s₀ s env W mr R hs F =>
  List_ (args_nil (wpAny_newObj_type ⟨Ext.push s _, s.heap.objs.size, [], 0, rfl, get_size _, Heap.get?_push_size _ rfl, .nil⟩ (by show _ ≤ sizeLine; simp [sizeLine])))

theorem repeat_raw {A : Around} {E : Value → Shared → Prop} {s : Shared} {l : Addr} {k : Nat} {v₁ : Value} {n : Int} {u : Tok} {Q : Value → Shared → Prop} (ho : s.heap.get? l = some (LObj [v₁] k)) (h1 : -(2 ^ 20 : Int) ≤ n) (h2 : n ≤ 2 ^ 20)
    (h : Q (.ref s.heap.objs.size) { s with heap := s.heap.push (LObj (List.replicate n.toNat v₁) 0) }) : wpAny G.M A (binaryOp .Mult (.ref l) (.int n u)) Q E s := by
  have hsz : (#[v₁] : Array Value).size = 1 := rfl
  refine wpAny_binaryOp_repeat_ref (T := "list") (U := "int") (by decide) ⟨_, ho, rfl⟩ (fun s' => typeIs_int s' n u) noFill_list_mul F.fills_int_mul F.slot_int_rmul repeat_list F.slot_int_index.lookup
    (call_meets F.slot_int_rmul (typeIs_int s n u) F.entry_int_rmul (F.args_int_rmul_2 _ _) (int___rmul___int_list n u l _ k)
      ⟨ho, rfl, ⟨_, ho, rfl⟩, call_meets F.slot_list_mul ⟨_, ho, rfl⟩ F.entry_list_mul (F.args_list_mul_2 _ _)
        (AutoListH.list___mul___list_int_3 l _ k n u (by simp [Builtin.List.listFitsIndex]; (first | lia | omega)) (by simp only [hsz]; (first | lia | omega)) (by simp only [hsz]; simp [Builtin.List.listTooLong, sizeLine]; (first | lia | omega)))
        ⟨ho, ?_⟩⟩)
  have e : List.foldl (fun x1 x2 => x1 ++ x2) #[] (List.replicate (if (#[v₁] : Array Value).isEmpty = true then 0 else n.toNat) #[v₁]) = (List.replicate n.toNat v₁).toArray := by
    have := foldl_append_one v₁ n.toNat #[]
    simpa using this
  show Q _ _
  rw [e]
  exact h

theorem semF_repeat {x : Str} {c : Nat} {p₀ p₁ p : Pos} {e : Expr} {n : Int} (he : SemE G k sc mv σ e (.int n)) (h1 : -(2 ^ 20 : Int) ≤ n) (h2 : n ≤ 2 ^ 20) :
    SemF G k sc mv σ (.BinOp (.List [.Constant (.str x) c p₀] p₁) .Mult e p) (List.replicate n.toNat (.str x)) := fun A s₀ s env W mr R hs F =>
  wpAny_BinOp (wpAny_mono (sem_list (semEs_cons (d := .str x) rfl sem_str semEs_nil) (by simp) A s₀ s env W mr R hs F) (fun v s₁ q₁ => wpAny_mono (he A s₀ s₁ env W mr R hs (F.more q₁.1)) (fun u s₂ q₂ => by
    obtain ⟨x₁, r₁⟩ := q₁
    obtain ⟨x₂, r₂⟩ := q₂
    obtain ⟨t, rfl⟩ := rep_int r₂
    obtain ⟨l, vs, m, rfl, ho, rs⟩ := (r₁.ext x₂).list
    cases rs with
    | cons rv rn =>
      cases rn
      obtain ⟨t', rfl⟩ := rep_str rv
      have x₃ := Ext.push s₂ (LObj (List.replicate n.toNat (.str x t')) 0)
      exact repeat_raw ho h1 h2 ⟨(x₁.trans x₂).trans x₃, s₂.heap.objs.size, _, 0, rfl, fresh_of_ext (x₁.trans x₂), Heap.get?_push_size _ rfl, Reps.replicate (.str x t') _⟩) fun _ _ x => x) fun _ _ x => x)

/- the frame takes a list of its own -/
theorem FnFrame.fresh {s₀ : Shared} {W₀ : Addr → Prop} {s s₁ : Shared} {env : Env} {W : Addr → Prop} {r : Addr} (F : FnFrame G s₀ W₀ env W none none σ s) (x₁ : Ext s s₁) (hr : s.heap.get? r = none) (ho : ∃ o, s₁.heap.get? r = some o) :
    FnFrame G s₀ W₀ env (fun a => W a ∨ a = r) none none σ s₁ ∧ s₀.heap.get? r = none := by
  refine ⟨⟨F.toFrame.fresh x₁ hr ho, F.hc, F.hcell, fun a q => .inl (F.sup a q), F.w0, F.mn⟩, ?_⟩
  cases e : s₀.heap.get? r with
  | none => rfl
  | some o => have := F.ext.keep _ _ e; rw [hr] at this; cases this
theorem FnFrame.introMut {A : Around} {E : Value → Shared → Prop} {s₀ : Shared} {W₀ : Addr → Prop} {s : Shared} {env : Env} {W : Addr → Prop} {x : Str} {r : Addr} {vs : List Value} {n : Nat} {ds : List PV} {Q : Unit → Shared → Prop} (hsc : env.scope = sc)
    (F : FnFrame G s₀ W₀ env W none none σ s) (hx : sc.names.lookup x = some .local ∨ sc.names.lookup x = some .cell) (hw : W r) (hr : s₀.heap.get? r = none) (ho : s.heap.get? r = some (LObj vs n)) (rs : GReps G W s.heap vs ds)
    (h : ∀ s', FnFrame G s₀ W₀ env W (some x) (some r) (Mine.put σ x (.lst ds)) s' → ExtS (Own env none) s s' → Q () s') : wpAny G.M A (storeName env x (.ref r)) Q E s := by
  refine F.toFrame.storeG (mv' := some x) (mr' := some r) (F.kind (by subst hsc; exact hx)) (.inr ⟨rfl, r, vs, ds, n, rfl, rfl, rfl, ho, rs⟩) (fun y u e hy V => ?_) (fun q hq => ?_) fun s' F' e => h s' ⟨F', F.hc, F.hcell, F.sup, F.w0, fun q => nomatch q⟩ e
  · rcases V with ⟨_, q⟩ | ⟨q, _⟩
    · exact .inl ⟨fun q => by cases q; exact hy rfl, q⟩
    · cases q
  · cases hq; exact ⟨hw, hr, vs, n, ho⟩

theorem semS_intro {x : Str} {e : Expr} {p p' : Pos} {ds : List PV} (hx : sc.names.lookup x = some .local ∨ sc.names.lookup x = some .cell) (he : SemF G k sc none σ e ds) (hs : ∀ env : Env, env.scope = sc → swapsWith e (some (.Name x p')) p.line env = pure false) :
    SemS G k sc none σ (.Assign [.Name x p'] e p) (some x) (put σ x (.lst ds)) .next := fun A s₀ W₀ s env W mr R hsc F =>
  wpAny_Assign_Name (wpAny_mono (he A s₀ s env W mr R hsc F.toFrame) (fun v s₁ p₁ => by
    obtain ⟨x₁, r, vs, n, rfl, h1, h2, h3⟩ := p₁
    have := F.mn rfl; subst this
    obtain ⟨F₁, hr0⟩ := F.fresh x₁ h1 ⟨_, h2⟩
    exact F₁.introMut hsc hx (.inr rfl) hr0 h2 h3 fun s' F' e => ⟨_, _, F', .inr ⟨rfl, nofun⟩, (x₁.toS _).trans (e.mono fun b q => q.up), trivial⟩) fun _ _ x => x) (hs env hsc)

/- «marks, quoted, end = [], False, 0», the stores exchanged -/
theorem semS_intro3 {x y z : Str} {es : List Expr} {m : Nat} {c₁ c₂ c₃ : Nat} {b : Bool} {i : Int} {p₀ p₁ p₂ p₃ p p' : Pos} (hx : sc.names.lookup x = some .local) (hy : okName sc none y) (hz : okName sc none z) (hxy : x ≠ y) (hxz : x ≠ z)
    (hs : ∀ env : Env, env.scope = sc → swapsWithSole [.Tuple es m p'] (.Tuple [.List [] p₀, .Constant (.bool b) c₁ p₁, .Constant (.int i) c₂ p₂] c₃ p₃) p.line env = pure false)
    (hw : ∀ env : Env, env.scope = sc → swappedStores [.Tuple es m p'] (.Tuple [.List [] p₀, .Constant (.bool b) c₁ p₁, .Constant (.int i) c₂ p₂] c₃ p₃) env = pure (some [x, y, z])) :
    SemS G k sc none σ (.Assign [.Tuple es m p'] (.Tuple [.List [] p₀, .Constant (.bool b) c₁ p₁, .Constant (.int i) c₂ p₂] c₃ p₃) p) (some x) (put (put (put σ z (.int i)) y (.bool b)) x (.lst [])) .next := fun A s₀ W₀ s env W mr R hsc F => by
  refine Assign_Tuple_swapped (names := [x, y, z]) ?_ (hs env hsc) (hw env hsc)
  have := F.mn rfl; subst this
  refine Tuple_ (args_cons (wpAny_mono (semF_nil A s₀ s env W none R hsc F.toFrame) (fun v s₁ p₁ => ?_) fun _ _ x => x) rfl)
  obtain ⟨x₁, r, vs, n, rfl, h1, h2, h3⟩ := p₁
  refine args_cons (Constant_bool (args_cons (wpAny_Constant_int (args_nil ?_)) rfl)) rfl
  generalize ht : s₁.toks = tk
  have x₂ : Ext s₁ { s₁ with toks := tk + 1 } := Ext.tok s₁ _
  refine wpAny_newObj_type ?_ (by show _ ≤ sizeLine; simp [sizeLine])
  generalize hs3 : ({ s₁ with toks := tk + 1, heap := s₁.heap.push { cls := .type "tuple", data := .seq [Value.ref r, Value.bool b, Value.int i tk].toArray } } : Shared) = s₃
  have x₃ : Ext s₁ s₃ := by rw [← hs3]; exact (Ext.push s₁ _).toks _
  have ht3 : s₃.heap.get? s₁.heap.objs.size = some (TObj [Value.ref r, Value.bool b, Value.int i tk] 0) := by rw [← hs3]; exact Heap.get?_push_size _ rfl
  have goal : wpAny G.M A (unpackItems (.ref s₁.heap.objs.size) [x, y, z].length none) (fun items s₂ => wpAny G.M A (assignInOrder ([x, y, z].reverse.map fun n => bindName env n) items.reverse) (fun _ => EndS G s₀ W₀ env W none none s (some x) (put (put (put σ z (.int i)) y (.bool b)) x (.lst [])) .next .next) No s₂) No s₃ := by
    refine wpAny_unpackItems_tuple (items := [Value.ref r, Value.bool b, Value.int i tk].toArray) R.hd (tobj_tuple ht3) fun h' he => ?_
    have x₄ := ext_of_extBut he
    show wpAny G.M A (do holding _ (bindName env z (.int i tk)); holding _ (bindName env y (.bool b)); holding _ (bindName env x (.ref r)); pure ()) _ _ _
    obtain ⟨F₁, hr0⟩ := F.fresh x₁ h1 ⟨_, h2⟩
    have F₄ := F₁.more (x₃.trans x₄)
    refine wpAny_bind (wpAny_holding (wpAny_bindName (F₄.put hsc hz (.int _ _) fun s₅ F₅ e₅ => ?_)))
    refine wpAny_bind (wpAny_holding (wpAny_bindName (F₅.put hsc hy (.bool _) fun s₆ F₆ e₆ => ?_)))
    have e6 : ExtS (Own env none) { s₃ with heap := h' } s₆ := e₅.trans e₆
    have hro : s₆.heap.get? r = some (LObj vs n) := by
      refine e6.keep r _ (fun q => ?_) ((x₃.trans x₄).keep _ _ h2)
      rcases q with q | ⟨w, q⟩ | q
      · subst q; obtain ⟨o, ho⟩ := F.low _ F.wl; rw [h1] at ho; cases ho
      · obtain ⟨o, ho⟩ := F.low _ (F.wc w r q); rw [h1] at ho; cases ho
      · cases q
    cases h3
    refine wpAny_bind (wpAny_holding (wpAny_bindName (F₆.introMut hsc (.inl hx) (.inr rfl) hr0 hro .nil fun s₇ F₇ e₇ => wpAny_pure ⟨_, _, F₇, .inr ⟨rfl, nofun⟩, ?_, trivial⟩)))
    exact ((((x₁.trans x₃).trans x₄).toS _).trans (e6.trans e₇)).mono fun b q => q.up
  subst ht
  exact goal

/- the mutable list, looked up -/
theorem Val.theList {W : Addr → Prop} {mr : Option Addr} {h : Heap} {x : Str} {v : Value} {ds : List PV} (V : Val G W (some x) mr h x v (.lst ds)) : ∃ r vs n, mr = some r ∧ v = .ref r ∧ h.get? r = some (LObj vs n) ∧ GReps G W h vs ds := by
  rcases V with ⟨q, _⟩ | ⟨_, r, vs, ds', n, h1, h2, h3, h4, h5⟩
  · exact absurd rfl q
  · cases h3; exact ⟨r, vs, n, h1, h2, h4, h5⟩

theorem FnFrame.setMut {s₀ : Shared} {W₀ : Addr → Prop} {s s' : Shared} {env : Env} {W : Addr → Prop} {mr : Option Addr} {x : Str} {r : Addr} {vs : List Value} {ds ds₀ : List PV} {n : Nat} (F : FnFrame G s₀ W₀ env W (some x) mr σ s) (hr : mr = some r)
    (hs : Heap.SameBut r s.heap s'.heap) (hn : s'.heap.get? r = some (LObj vs n)) (hR : GReps G W s.heap vs ds) (hx : σ.lookup x = some (.lst ds₀)) (hg : s'.gens = s.gens) (ho : s'.os = s.os) :
    FnFrame G s₀ W₀ env W (some x) mr (Mine.put σ x (.lst ds)) s' ∧ ExtS (Own env mr) s s' := by
  obtain ⟨F', e⟩ := F.toFrame.setMut rfl hr hs hn hR ⟨_, hx⟩ hg ho
  exact ⟨F.of F', e⟩

/- the mutable list changed by a call -/
theorem get_update {h : Heap} {r : Addr} {vs ws : List Value} {n m : Nat} {f : Obj → Obj} (ho : h.get? r = some (LObj vs n)) (hf : f (LObj vs n) = LObj ws m) : (h.update r f).get? r = some (LObj ws m) := by
  rw [Heap.get?_update_self f ho (by rw [hf]; rfl), hf]

theorem mapSeq_lobj {f : Array Value → Array Value} {vs ws : List Value} {n : Nat} (h : f vs.toArray = ws.toArray) : ∃ m, Obj.mapSeq f (LObj vs n) = LObj ws m := by
  refine ⟨if (f vs.toArray).size == vs.toArray.size then n else n + 1, ?_⟩
  show (⟨.type "list", none, .seq (f vs.toArray) (if (f vs.toArray).size == vs.toArray.size then n else n + 1), #[]⟩ : Obj) = _
  rw [h]

theorem semS_append {x : Str} {e : Expr} {p₀ apos p pos : Pos} {ds : List PV} {d : PV} (hx : σ.lookup x = some (.lst ds)) (hd : (x == ("__debug__" : Str)) = false) (hn : notStarred e = true) (hp : (apos.endLine == p.line) = true) (he : SemE G k sc (some x) σ e d) (hsz : ds.length ≤ 2 ^ 20) :
    SemS G k sc (some x) σ (.Expr (.Call (.Attribute (.Name x p₀) "append" apos) [e] [] p) pos) (some x) (put σ x (.lst (ds ++ [d]))) .next := fun A s₀ W₀ s env W mr R hsc F =>
  wpAny_Expr (Call_method1 rfl (starEach_plain hn _ _) hp (wpAny_Name (F.toFrame.load hx fun v V => by
    obtain ⟨r, vs, n, hr, rfl, ho, rs⟩ := V.theList
    refine method1_on PySem.F.plainAttrs_list PySem.F.slot_list_append PySem.F.type_list_append ⟨_, ho, rfl⟩ (fun a e => by cases e; exact ⟨_, ho, rfl⟩) (wpAny_mono (he A s₀ s env W mr R hsc F.toFrame) (fun v s₁ p₁ => ?_) fun _ _ x => x)
    obtain ⟨x₁, r₁⟩ := p₁
    refine wpAny_list_append_plain ⟨n, x₁.keep _ _ ho⟩ (fun h' hl hs => ?_) (by simp [rs.length]; exact Nat.le_trans hsz sizeLine_big)
    obtain ⟨m, hl⟩ := hl
    have hl' : h'.get? r = some (LObj (vs ++ [v]) m) := by rw [hl]; simp
    obtain ⟨F', e'⟩ := (F.more x₁).setMut (s' := { s₁ with heap := h' }) hr hs hl' ((rs.ext x₁).append (.cons r₁ .nil)) hx rfl rfl
    exact end_same F' ((x₁.toS _).trans e')) hd)) (by unfold interactive; rw [F.fk]; rfl) rfl

theorem list_iadd_ok {A : Around} {E : Value → Shared → Prop} {s : Shared} {l b : Addr} {vs ws : List Value} {n m : Nat} {Q : Value → Shared → Prop} (h1 : s.heap.get? l = some (LObj vs n)) (h2 : s.heap.get? b = some (LObj ws m)) (hsz : vs.length + ws.length ≤ 2 ^ 20)
    (h : Q (.ref l) { s with heap := s.heap.update l (Obj.mapSeq fun x => x ++ ws.toArray) }) : wpAny G.M A (inplaceOp .Add (.ref l) (.ref b)) Q E s := by
  have hz := sizeLine_big
  have hi : typeLookup (.type "list") (dunderI "add") = pure (some (.builtin "list.__iadd__")) := PySem.F.slot_list_iadd.lookup
  have hseq : isSeqSlot (some (.builtin "list.__iadd__")) = true := by decide +kernel
  have ha : s.TypeIs (.ref l) "list" := ⟨_, h1, rfl⟩
  have hb : s.TypeIs (.ref b) "list" := ⟨_, h2, rfl⟩
  unfold inplaceOp
  refine wpAny_holding ?_
  have hfi : fillsInplaceSlot (.type "list") "add" (Operator.Add == .Add) = pure false := by
    unfold fillsInplaceSlot
    show (typeLookup (.type "list") (dunderI "add") >>= fun fi => pure (fi.isSome && !isSeqSlot fi)) = pure false
    rw [hi]; show (pure (true && !isSeqSlot (some (.builtin "list.__iadd__"))) : Sem Bool) = _; rw [hseq]; rfl
  have hsi : seqSlot? (.type "list") (dunderI "add") = pure (some (.builtin "list.__iadd__")) := PySem.seqSlot_of hi hseq
  refine wpAny_bind (wpAny_typeOf ha (wpAny_bind (wpAny_of_eq hfi ?_)))
  show wpAny _ A (if false = true then _ else _) Q E s
  rw [if_neg Bool.false_ne_true]
  refine wpAny_bind (wpAny_binaryOp1_none (nm := "add") ha hb noFill_list_add ?_)
  refine wpAny_bind (wpAny_of_eq hsi ?_)
  refine wpAny_bind (wpAny_rule ?_)
  exact call_meets PySem.F.slot_list_iadd ha PySem.F.entry_list_iadd (PySem.F.args_list_iadd_2 _ _) (AutoSeq1.list___iadd___list_list_0 l vs.toArray n b ws.toArray m (by simp [Builtin.List.listTooLong, sizeLine]; intro _; (first | lia | omega)) (by simp; (first | lia | omega)) (by simp; (first | lia | omega))) ⟨h1, h2, h⟩

theorem semS_extend {x : Str} {e : Expr} {p p' : Pos} {ds es : List PV} (hx : σ.lookup x = some (.lst ds)) (hk : sc.names.lookup x = some .local ∨ sc.names.lookup x = some .cell) (hd : (x == ("__debug__" : Str)) = false) (he : SemE G k sc (some x) σ e (.lst es)) (hsz : ds.length + es.length ≤ 2 ^ 20) :
    SemS G k sc (some x) σ (.AugAssign (.Name x p') .Add e p) (some x) (put σ x (.lst (ds ++ es))) .next := fun A s₀ W₀ s env W mr R hsc F =>
  wpAny_AugAssign_Name (F.toFrame.load hx fun v V => wpAny_mono (he A s₀ s env W mr R hsc F.toFrame) (fun u s₁ p₁ => by
    obtain ⟨r, vs, n, hr, rfl, ho, rs⟩ := V.theList
    obtain ⟨x₁, r₁⟩ := p₁
    obtain ⟨b, ws, m, rfl, ho', rs'⟩ := r₁.list
    have hlen := rs.length
    have hlen' := rs'.length
    refine list_iadd_ok (x₁.keep _ _ ho) ho' (by (first | lia | omega)) ?_
    have hmap : ∃ m', Obj.mapSeq (fun x => x ++ ws.toArray) (LObj vs n) = LObj (vs ++ ws) m' := mapSeq_lobj (by simp)
    obtain ⟨m', hmap⟩ := hmap
    have hl' := get_update (x₁.keep _ _ ho) hmap
    obtain ⟨F', e'⟩ := (F.more x₁).setMut (s' := { s₁ with heap := s₁.heap.update r (Obj.mapSeq fun x => x ++ ws.toArray) }) hr (Heap.SameBut.update ..) hl' ((rs.ext x₁).append rs') hx rfl rfl
    refine F'.toFrame.storeG (mv' := some x) (mr' := mr) (F'.kind (by subst hsc; exact hk)) (.inr ⟨rfl, r, vs ++ ws, ds ++ es, m', hr, rfl, rfl, hl', ?_⟩) (fun _ _ _ _ V => V) F'.mu fun s' F'' e'' => ?_
    · exact Reps.extS (F.more x₁).toFrame ((rs.ext x₁).append rs') e'
    · rw [put_put] at F''
      exact end_same (F'.of F'') (((x₁.toS _).trans e').trans (e''.mono fun b q => q.up))) fun _ _ x => x)

theorem semS_setitem {x : Str} {i e : Expr} {p₀ p p' : Pos} {ds : List PV} {d : PV} {j : Int} (hx : σ.lookup x = some (.lst ds)) (hd : (x == ("__debug__" : Str)) = false) (he : SemE G k sc (some x) σ e d) (hi : SemE G k sc (some x) σ i (.int j)) (h0 : 0 ≤ j) (h1 : j < ds.length) (h2 : ds.length ≤ 2 ^ 20)
    (hs : ∀ env : Env, env.scope = sc → swapsWith e (some ((Expr.Name x p₀).Subscript i p')) p.line env = pure false) :
    SemS G k sc (some x) σ (.Assign [.Subscript (.Name x p₀) i p'] e p) (some x) (put σ x (.lst (ds.set j.toNat d))) .next := fun A s₀ W₀ s env W mr R hsc F =>
  wpAny_Assign_Subscript (wpAny_mono (he A s₀ s env W mr R hsc F.toFrame) (fun v s₁ p₁ => wpAny_Name ((F.more p₁.1).toFrame.load hx fun u V => wpAny_mono (hi A s₀ s₁ env W mr R hsc (F.more p₁.1).toFrame) (fun w s₂ p₂ => by
    obtain ⟨r, vs, n, hr, rfl, ho, rs⟩ := V.theList
    obtain ⟨x₁, r₁⟩ := p₁
    obtain ⟨x₂, r₂⟩ := p₂
    obtain ⟨t, rfl⟩ := rep_int r₂
    have hlen := rs.length
    refine PySem.W.ki_setAt (n := n) (items := vs.toArray) (x₂.keep _ _ ho) h0 (by (first | lia | omega)) (by simp; (first | lia | omega)) ?_
    have hmap : ∃ m', Obj.mapSeq (fun y => y.setIfInBounds j.toNat v) (LObj vs n) = LObj (vs.set j.toNat v) m' := mapSeq_lobj (by simp)
    obtain ⟨m', hmap⟩ := hmap
    have hl' := get_update (x₂.keep _ _ ho) hmap
    obtain ⟨F', e'⟩ := ((F.more x₁).more x₂).setMut (s' := { s₂ with heap := s₂.heap.update r (Obj.mapSeq fun y => y.setIfInBounds j.toNat v) }) hr (Heap.SameBut.update ..) hl' ((rs.ext x₂).set (r₁.ext x₂) j.toNat) hx rfl rfl
    exact end_same F' (((x₁.trans x₂).toS _).trans e')) fun _ _ x => x) hd) fun _ _ x => x) (hs env hsc)

/- «a, b, c = xs.pop(i)» -/
theorem semS_pop {x : Str} {i : Expr} {es : List Expr} {xs : List Str} {m : Nat} {p₀ apos p₁ p p' : Pos} {ds us : List PV} {j : Int} (hx : σ.lookup x = some (.lst ds)) (hd : (x == ("__debug__" : Str)) = false) (hi : SemE G k sc (some x) σ i (.int j)) (h0 : 0 ≤ j) (hj : ds[j.toNat]? = some (.tup us)) (h2 : ds.length ≤ 2 ^ 20)
    (hns : notStarred i = true) (hp : (apos.endLine == p₁.line) = true) (hn : names es = some xs) (hl : xs.length = us.length) (hxs : ∀ y ∈ xs, okName sc (some x) y) (hs : ∀ env : Env, env.scope = sc → swapsWithSole [.Tuple es m p'] (.Call (.Attribute (.Name x p₀) "pop" apos) [i] [] p₁) p.line env = pure false)
    (hw : ∀ env : Env, env.scope = sc → swappedStores [.Tuple es m p'] (.Call (.Attribute (.Name x p₀) "pop" apos) [i] [] p₁) env = pure none) :
    SemS G k sc (some x) σ (.Assign [.Tuple es m p'] (.Call (.Attribute (.Name x p₀) "pop" apos) [i] [] p₁) p) (some x) (putAll (put σ x (.lst (ds.eraseIdx j.toNat))) xs us) .next := fun A s₀ W₀ s env W mr R hsc F =>
  Assign_Tuple (Call_method1 rfl (starEach_plain hns _ _) hp (wpAny_Name (F.toFrame.load hx fun v V => by
    obtain ⟨r, vs, n, hr, rfl, ho, rs⟩ := V.theList
    refine method1_on PySem.F.plainAttrs_list PySem.F.slot_list_pop PySem.F.type_list_pop ⟨_, ho, rfl⟩ (fun a e => by cases e; exact ⟨_, ho, rfl⟩) (wpAny_mono (hi A s₀ s env W mr R hsc F.toFrame) (fun v s₁ p₁ => ?_) fun _ _ x => x)
    obtain ⟨x₁, r₁⟩ := p₁
    obtain ⟨t, rfl⟩ := rep_int r₁
    have hlen := rs.length
    obtain ⟨y, hy, ry⟩ := rs.get hj
    have hlt := (List.getElem?_eq_some_iff.mp hy).1
    refine call_meets PySem.F.slot_list_pop ⟨_, x₁.keep _ _ ho, rfl⟩ PySem.F.entry_list_pop (PySem.F.args_list_pop_2 _ _) (PySem.MeetsSeq.list_pop_at r vs.toArray n j t j.toNat y (by simp [Builtin.List.listFitsIndex]; (first | lia | omega)) (by simp [seqIndex?]; (first | lia | omega)) (by simpa using hy) (by simp; have := sizeLine_big; (first | lia | omega))) ⟨x₁.keep _ _ ho, ?_⟩
    have hmap : ∃ m', Obj.mapSeq (fun xs => xs.eraseIdxIfInBounds j.toNat) (LObj vs n) = LObj (vs.eraseIdx j.toNat) m' := mapSeq_lobj (by simp [Array.eraseIdxIfInBounds, hlt])
    obtain ⟨m', hmap⟩ := hmap
    have hl' := get_update (x₁.keep _ _ ho) hmap
    obtain ⟨F', e'⟩ := (F.more x₁).setMut (s' := { s₁ with heap := s₁.heap.update r (Obj.mapSeq fun xs => xs.eraseIdxIfInBounds j.toNat) }) hr (Heap.SameBut.update ..) hl' ((rs.ext x₁).eraseIdx j.toNat) hx rfl rfl
    exact assign_tuple R hsc F' hn hl hxs (Rep.extS (F.more x₁).toFrame (ry.ext x₁) e') fun s' F'' e'' => end_same F'' (((x₁.toS _).trans e').trans e'')) hd)) (hs env hsc) (hw env hsc)
end
end Mine
end

noncomputable section
open PySem PyProof.Rows
set_option Elab.async false
set_option linter.all false
set_option autoImplicit false
namespace Mine

section
variable {G : Glo} {s₀ : Shared} {env : Env} {W W' : Addr → Prop} {mv : Option Str} {mr : Option Addr} {σ : Sig} {s s' : Shared}

/- fresh places join the excluded ones -/
theorem Frame.freshP (F : Frame G s₀ env W mv mr σ s) {s₁ : Shared} {P : Addr → Prop} (x : Ext s s₁) (hr : ∀ r, P r → s.heap.get? r = none) (hr' : ∀ r, P r → ∃ o, s₁.heap.get? r = some o) : Frame G s₀ env (fun a => W a ∨ P a) mv mr σ s₁ := by
  have hw : ∀ a o, s.heap.get? a = some o → (W a ∨ P a) → W a := fun a o ha h => h.elim id fun e => by rw [hr a e] at ha; cases ha
  have V : ∀ {x v d}, Val G W mv mr s.heap x v d → Val G (fun a => W a ∨ P a) mv mr s₁.heap x v d := by
    intro y v d V
    rcases V with ⟨a, q⟩ | ⟨a, r', vs, ds, n, h1, h2, h3, h4, h5⟩
    · exact .inl ⟨a, (q.widen hw).ext x⟩
    · exact .inr ⟨a, r', vs, ds, n, h1, h2, h3, x.keep _ _ h4, (h5.widen hw).ext x⟩
  refine { base₀ := F.base₀, ext := F.ext.trans x, bare := x.bare F.bare, fk := F.fk, gl := F.gl, bl := F.bl, low := ?_, wl := .inl F.wl, wc := fun y c e => .inl (F.wc y c e), hi := F.hi, ns := ?_, cl := ?_, kd := F.kd, apart := F.apart, mu := ?_ }
  · rintro a (h | h)
    · obtain ⟨o, e⟩ := F.low a h; exact ⟨o, x.keep a o e⟩
    · exact hr' a h
  · obtain ⟨m, hm, h⟩ := F.ns
    refine ⟨m, hm.keeps x.keep, fun y d e k => ?_⟩
    obtain ⟨v, h1, h2⟩ := h y d e k
    exact ⟨v, h1, V h2⟩
  · intro y c e
    obtain ⟨ov, h1, h2⟩ := F.cl y c e
    refine ⟨ov, h1.keeps x.keep, fun d e k => ?_⟩
    obtain ⟨v, h3, h4⟩ := h2 d e k
    exact ⟨v, h3, V h4⟩
  · intro q e
    obtain ⟨h1, h2, vs, n, h3⟩ := F.mu q e
    exact ⟨.inl h1, h2, vs, n, x.keep _ _ h3⟩

/- what the frame itself stands on, as a part of W -/
structure Feet (env : Env) (mr : Option Addr) (W : Addr → Prop) : Prop where
  wl : W env.locals
  wc : ∀ x c, env.cells.lookup x = some c → W c
  wm : ∀ r, mr = some r → W r
theorem Frame.feet (F : Frame G s₀ env W mv mr σ s) : Feet env mr W := ⟨F.wl, F.wc, fun r e => (F.mu r e).1⟩

theorem Frame.mvd {Pw : Addr → Prop} {Pg : Nat → Prop} (F : Frame G s₀ env W' mv mr σ s) (m : Mvd Pw Pg s s') (hsub : ∀ b, Pw b → W' b) (h0 : ∀ b, Pw b → s₀.heap.get? b = none) (hg : ∀ (g : Nat), Pg g → s₀.gens[g]? = none)
    (hW : ∀ a, W a → W' a) (ft : Feet env mr W) (hlow : ∀ a, W a → ∃ o, s'.heap.get? a = some o) (hl : ¬ Pw env.locals) (hc : ∀ x c, env.cells.lookup x = some c → ¬ Pw c) (hm : ∀ r, mr = some r → ¬ Pw r) : Frame G s₀ env W mv mr σ s' := by
  have up : ∀ b o, ¬ W' b → s.heap.get? b = some o → s'.heap.get? b = some o := fun b o hb e => m.keep b o (fun q => hb (hsub b q)) e
  have hw : ∀ a o, s'.heap.get? a = some o → W a → W' a := fun a _ _ q => hW a q
  have V : ∀ {x v d}, Val G W' mv mr s.heap x v d → Val G W mv mr s'.heap x v d := by
    intro y v d V
    rcases V with ⟨a, q⟩ | ⟨a, r', vs, ds, n, h1, h2, h3, h4, h5⟩
    · exact .inl ⟨a, (q.keep up).widen hw⟩
    · exact .inr ⟨a, r', vs, ds, n, h1, h2, h3, m.keep _ _ (hm r' h1) h4, (h5.keep up).widen hw⟩
  refine { base₀ := F.base₀, ext := ⟨fun b o e => m.keep b o (fun q => by rw [h0 b q] at e; cases e) (F.ext.keep b o e), fun i x e => m.gens i x (fun q => by rw [hg i q] at e; cases e) (F.ext.gens i x e), fun h => m.bare (F.ext.bare h), m.os.trans F.ext.os⟩, bare := m.bare F.bare, fk := F.fk, gl := F.gl, bl := F.bl, low := hlow, wl := ft.wl, wc := ft.wc, hi := F.hi, ns := ?_, cl := ?_, kd := F.kd, apart := F.apart, mu := ?_ }
  · obtain ⟨mm, hm', h⟩ := F.ns
    refine ⟨mm, hm'.at' fun o e => m.keep _ o hl e, fun y d e k => ?_⟩
    obtain ⟨v, h1, h2⟩ := h y d e k
    exact ⟨v, h1, V h2⟩
  · intro y c e
    obtain ⟨ov, ⟨o, ho, hd⟩, h2⟩ := F.cl y c e
    refine ⟨ov, ⟨o, m.keep _ _ (hc y c e) ho, hd⟩, fun d e k => ?_⟩
    obtain ⟨v, h3, h4⟩ := h2 d e k
    exact ⟨v, h3, V h4⟩
  · intro q e
    obtain ⟨h1, h2, vs, n, h3⟩ := F.mu q e
    exact ⟨ft.wm q e, h2, vs, n, m.keep _ _ (hm q e) h3⟩

theorem Frame.shrink (F : Frame G s₀ env W' mv mr σ s) (hW : ∀ a, W a → W' a) (ft : Feet env mr W) : Frame G s₀ env W mv mr σ s :=
  F.mvd (Pw := fun _ => False) (Pg := fun _ => False) ⟨fun _ _ _ e => e, fun _ _ _ e => e, id, rfl⟩ (fun _ h => h.elim) (fun _ h => h.elim) (fun _ h => h.elim) hW ft (fun a h => F.low a (hW a h)) id (fun _ _ _ => id) fun _ _ => id
end

section
variable {G : Glo} {k : Nat} {sc : Scope} {mv mv' : Option Str} {σ σ' : Sig}

/- the target of a loop takes an item -/
inductive Takes (sc : Scope) (mv : Option Str) : Expr → PV → Sig → Sig → Prop
  | name {x : Str} {p : Pos} {d : PV} {σ : Sig} : okName sc mv x → Takes sc mv (.Name x p) d σ (put σ x d)
  | tup {es : List Expr} {xs : List Str} {n : Nat} {p : Pos} {ds : List PV} {σ : Sig} : names es = some xs → xs.length = ds.length → (∀ x ∈ xs, okName sc mv x) → Takes sc mv (.Tuple es n p) (.tup ds) σ (putAll σ xs ds)

theorem Takes.run {t : Expr} {d : PV} (h : Takes sc mv t d σ σ') {A : Around} {s₀ : Shared} {W₀ : Addr → Prop} {s : Shared} {env : Env} {W : Addr → Prop} {mr : Option Addr} {v : Value} {Q : Unit → Shared → Prop} (R : Room k A) (hsc : env.scope = sc) (F : FnFrame G s₀ W₀ env W mv mr σ s) (r : GRep G W s.heap v d)
    (hQ : ∀ s', FnFrame G s₀ W₀ env W mv mr σ' s' → ExtS (Own env mr) s s' → Q () s') : wpAny G.M A (assign t env v) Q No s := by
  cases h with
  | name hx => exact PyProof.Rows.assign_Name (F.put hsc hx r fun s' F' e => hQ s' F' (e.mono fun b q => q.up))
  | tup hn hl hx => exact assign_tuple R hsc F hn hl hx r hQ

inductive ForRel (step : PV → Sig → Sig → PFlow → Prop) : List PV → Sig → Sig → PFlow → Prop
  | nil {σ : Sig} : ForRel step [] σ σ .next
  | next {d : PV} {ds : List PV} {σ σ₁ σ' : Sig} {fl : PFlow} : step d σ σ₁ .next → ForRel step ds σ₁ σ' fl → ForRel step (d :: ds) σ σ' fl
  | ret {d r : PV} {ds : List PV} {σ σ₁ : Sig} : step d σ σ₁ (.ret r) → ForRel step (d :: ds) σ σ₁ (.ret r)

theorem ForRel.nil_inv {step : PV → Sig → Sig → PFlow → Prop} {fl : PFlow} (h : ForRel step [] σ σ' fl) : σ = σ' ∧ fl = .next := by
  cases h; exact ⟨rfl, rfl⟩
theorem ForRel.cons_inv {step : PV → Sig → Sig → PFlow → Prop} {fl : PFlow} {d : PV} {ds : List PV} (h : ForRel step (d :: ds) σ σ' fl) {R : Prop} (k1 : ∀ σ₁, step d σ σ₁ .next → ForRel step ds σ₁ σ' fl → R) (k2 : ∀ r, fl = .ret r → step d σ σ' (.ret r) → R) : R := by
  cases h with
  | next a b => exact k1 _ a b
  | ret a => exact k2 _ rfl a

noncomputable def notSet : Expr → Bool
  | .Set .. => false
  | _ => true
theorem notSet_folded {e : Expr} (h : notSet e = true) (env : Env) (x : Value) : foldedSetIterable e env x = pure x := by
  cases e <;> first | rfl | cases h

noncomputable abbrev Turn (G : Glo) (k : Nat) (sc : Scope) (mv : Option Str) (t : Expr) (body : List Stmt) : PV → Sig → Sig → PFlow → Prop := fun d σ σ₁ fl => ∃ σa, Takes sc mv t d σ σa ∧ SemSs G k sc mv σa body mv σ₁ fl

theorem FnFrame.shrink {s₀ : Shared} {W₀ : Addr → Prop} {env : Env} {W W' : Addr → Prop} {mr : Option Addr} {s : Shared} (F : FnFrame G s₀ W₀ env W' mv mr σ s) (hW : ∀ a, W a → W' a) (ft : Feet env mr W) (hs : ∀ a, W₀ a → W a) : FnFrame G s₀ W₀ env W mv mr σ s :=
  ⟨F.toFrame.shrink hW ft, F.hc, F.hcell, hs, F.w0, F.mn⟩

inductive WhileRel (test : Sig → Bool → Prop) (step : Sig → Sig → Prop) : Nat → Sig → Sig → Prop
  | stop {σ : Sig} : test σ false → WhileRel test step 0 σ σ
  | next {n : Nat} {σ σ₁ σ' : Sig} : test σ true → step σ σ₁ → WhileRel test step n σ₁ σ' → WhileRel test step (n + 1) σ σ'

theorem WhileRel.inv {test : Sig → Bool → Prop} {step : Sig → Sig → Prop} {n : Nat} (h : WhileRel test step n σ σ') {R : Prop} (k1 : σ = σ' → test σ false → R) (k2 : ∀ m σ₁, n = m + 1 → test σ true → step σ σ₁ → WhileRel test step m σ₁ σ' → R) : R := by
  cases h with
  | stop a => exact k1 rfl a
  | next a b c => exact k2 _ _ rfl a b c
inductive WhileAt (G : Glo) (test : Sig → Bool → Prop) (step : Sig → Sig → Prop) (s₀ : Shared) (W₀ : Addr → Prop) (env : Env) (W : Addr → Prop) (mv : Option Str) (mr : Option Addr) (σ' : Sig) (s : Shared) (n : Nat) (s' : Shared) : Prop
  | mk (σi : Sig) : WhileRel test step n σi σ' → FnFrame G s₀ W₀ env W mv mr σi s' → ExtS (Own env mr) s s' → WhileAt G test step s₀ W₀ env W mv mr σ' s n s'

theorem semS_while {t : Expr} {body : List Stmt} {p : Pos} {n : Nat} (h : WhileRel (fun σ b => SemB G k sc mv σ t b) (fun σ σ₁ => SemSs G k sc mv σ body mv σ₁ .next) n σ σ') : SemS G k sc mv σ (.While t body [] p) mv σ' .next := fun A s₀ W₀ s env W mr R hsc F => by
  refine wpAny_While (codeAny_mono (codeAny_whileLoop (R := fun r s' => ∃ f, r = .ok f ∧ EndS G s₀ W₀ env W mv mr s mv σ' .next f s')
    (WhileAt G (fun σ b => SemB G k sc mv σ t b) (fun σ σ₁ => SemSs G k sc mv σ body mv σ₁ .next) s₀ W₀ env W mv mr σ' s) ?_ n ⟨σ, h, F, .refl _ _⟩) fun r s' q => ?_)
  · rintro m s' ⟨σi, hr, F', kp⟩
    refine hr.inv (fun e ht => ?_) fun m' σ₁ em ht hb hr => ?_
    · refine wpAny_mono (ht A s₀ s' env W mr R hsc F'.toFrame) (fun b s₂ q => ?_) fun _ _ q => q.elim
      rw [q.1, if_neg nofun]
      exact wpAny_execs_nil ⟨_, rfl, end_same (e ▸ F'.more q.2) (kp.trans (q.2.toS _))⟩
    · refine wpAny_mono (ht A s₀ s' env W mr R hsc F'.toFrame) (fun b s₂ q => ?_) fun _ _ q => q.elim
      have x := q.2
      rw [q.1, if_pos rfl]
      refine wpAny_mono (hb A s₀ W₀ s₂ env W mr R hsc (F'.more x)) (fun f s₃ q => ?_) fun _ _ q => q.elim
      obtain ⟨W₃, mr₃, F₃, stp, e₃, fo⟩ := q
      rcases stp with ⟨_, rfl, rfl⟩ | ⟨h1, h2⟩
      · cases f with
        | next => exact ⟨_, em ▸ Nat.lt_succ_self _, _, hr, F₃, kp.trans ((x.toS _).trans e₃)⟩
        | _ => exact fo.elim
      · exact absurd h1 h2
  · obtain ⟨f, rfl, q⟩ := q
    exact q
end
end Mine
end

noncomputable section
open PySem PyProof.Rows
set_option Elab.async false
set_option linter.all false
set_option autoImplicit false
namespace Mine

theorem bindL_not_mem (kd : Str → Option NameKind) : ∀ (b : List (Str × Value)) (m : Str → Option Value) (x : Str), x ∉ b.map (·.1) → bindL kd b m x = m x
  | [], m, x, _ => rfl
  | (n, v) :: r, m, x, h => by
    simp only [List.map_cons, List.mem_cons, not_or] at h
    rw [bindL, bindL_not_mem kd r _ x h.2]
    split <;> simp [h.1]
theorem bindC_not_mem (kd : Str → Option NameKind) : ∀ (b : List (Str × Value)) (m : Str → Option Value) (x : Str), x ∉ b.map (·.1) → bindC kd b m x = m x
  | [], m, x, _ => rfl
  | (n, v) :: r, m, x, h => by
    simp only [List.map_cons, List.mem_cons, not_or] at h
    rw [bindC, bindC_not_mem kd r _ x h.2]
    split <;> simp [h.1]
theorem bindL_lookup (kd : Str → Option NameKind) : ∀ (b : List (Str × Value)) (m : Str → Option Value) (x : Str) (v : Value), (b.map (·.1)).Nodup → b.lookup x = some v → kd x = some .local → bindL kd b m x = some v
  | [], _, _, _, _, h, _ => by simp at h
  | (n, u) :: r, m, x, v, hn, h, hk => by
    simp only [List.map_cons, List.nodup_cons] at hn
    rw [bindL]
    by_cases hx : x = n
    · subst hx
      simp [List.lookup] at h
      subst h
      rw [bindL_not_mem kd r _ x hn.1, if_pos hk]
      simp
    · have : (x == n) = false := by simpa using hx
      rw [List.lookup, this] at h
      exact bindL_lookup kd r _ x v hn.2 h hk
theorem bindC_lookup (kd : Str → Option NameKind) : ∀ (b : List (Str × Value)) (m : Str → Option Value) (x : Str) (v : Value), (b.map (·.1)).Nodup → b.lookup x = some v → kd x ≠ some .local → bindC kd b m x = some v
  | [], _, _, _, _, h, _ => by simp at h
  | (n, u) :: r, m, x, v, hn, h, hk => by
    simp only [List.map_cons, List.nodup_cons] at hn
    rw [bindC]
    by_cases hx : x = n
    · subst hx
      simp [List.lookup] at h
      subst h
      rw [bindC_not_mem kd r _ x hn.1, if_neg hk]
      simp
    · have : (x == n) = false := by simpa using hx
      rw [List.lookup, this] at h
      exact bindC_lookup kd r _ x v hn.2 h hk

theorem zip_reps {G : Glo} {W : Addr → Prop} {h : Heap} : ∀ (ns : List Str) {vs : List Value} {ds : List PV}, GReps G W h vs ds → ∀ {x : Str} {d : PV}, (ns.zip ds).lookup x = some d → ∃ v, (ns.zip vs).lookup x = some v ∧ GRep G W h v d
  | [], _, _, _, x, d, e => by simp at e
  | n :: ns, _, _, .nil, x, d, e => by simp at e
  | n :: ns, _, _, .cons r q, x, d, e => by
    by_cases hx : x = n
    · subst hx
      simp [List.lookup] at e ⊢
      subst e; exact r
    · have : (x == n) = false := by simpa using hx
      simp only [List.zip_cons_cons, List.lookup, this] at e ⊢
      exact zip_reps ns q e

theorem cellsFrom_some (x : Str) : ∀ (ns : List (Str × NameKind)) (n : Nat) (acc : List (Str × Addr)), ((∃ c, acc.lookup x = some c) ∨ (x, NameKind.cell) ∈ ns) → ∃ c, (cellsFrom n ns acc).lookup x = some c
  | [], n, acc, h => by
    rcases h with h | h
    · exact h
    · cases h
  | (y, kd) :: r, n, acc, h => by
    unfold cellsFrom
    split
    · rename_i hk
      refine cellsFrom_some x r _ _ ?_
      by_cases hx : x = y
      · subst hx; exact .inl ⟨n, by simp [List.lookup]⟩
      · have hb : (x == y) = false := by simpa using hx
        rcases h with ⟨c, h⟩ | h
        · exact .inl ⟨c, by simp [List.lookup, hb, h]⟩
        · rcases List.mem_cons.mp h with h | h
          · cases h; exact absurd rfl hx
          · exact .inr h
    · rename_i hk
      refine cellsFrom_some x r _ _ ?_
      rcases h with h | h
      · exact .inl h
      · rcases List.mem_cons.mp h with h | h
        · cases h; exact absurd rfl hk
        · exact .inr h
theorem lookup_mem {α : Type} : ∀ {l : List (Str × α)} {x : Str} {a : α}, l.lookup x = some a → (x, a) ∈ l
  | (y, b) :: r, x, a, h => by
    by_cases hx : x = y
    · subst hx; simp [List.lookup] at h; subst h; exact List.mem_cons_self ..
    · have hb : (x == y) = false := by simpa using hx
      rw [List.lookup, hb] at h
      exact List.mem_cons_of_mem _ (lookup_mem h)

section
variable {G : Glo} {k : Nat}

/- a def by its body -/
theorem callOK_of {f : Str} {params : Arguments} {body : List Stmt} {sc : Scope} {ns : List Str} {ds : List PV} {mv' : Option Str} {σ' : Sig} {d : PV} (hfn : G.fns.lookup f = some (params, body, sc))
    (hb : ∀ (pm cd doc : Value) (vs : List Value), vs.length = ns.length → bindArgs (Calls.docDef f params body sc pm cd doc) ⟨vs, []⟩ = pure (ns.zip vs)) (hnd : ns.Nodup) (hlen : ns.length = ds.length)
    (hk : sc.kind = .function) (hco : sc.isCoroutine = false) (hgen : sc.isGenerator = false) (hkd : ∀ x ∈ ns, sc.names.lookup x = some .local ∨ sc.names.lookup x = some .cell)
    (h : SemSs G k sc none (ns.zip ds) body mv' σ' (.ret d)) : CallOK G (k + 1) f ds d := by
  intro A s W vs a R B hbr lo hf r
  obtain ⟨a', o, pm, cd, doc, h1, h2, h3, h4⟩ := B.fn f _ hfn
  rw [hf] at h1
  cases h1
  have hvl : vs.length = ns.length := by rw [r.length, hlen]
  have hmap : (ns.zip vs).map (·.1) = ns := List.map_fst_zip (by (first | lia | omega))
  have hcs : ∀ x, sc.names.lookup x = some .cell → ∃ c, (cellsFrom (s.heap.objs.size + 1) sc.names []).lookup x = some c := fun x hx => cellsFrom_some x _ _ _ (.inr (lookup_mem hx))
  have hroom : A.depth < recursionLimit := by have := R.depth; (first | lia | omega)
  refine call_cells_ret hroom h2 h3 B.nolimit h4 (hb pm cd doc vs hvl) (fun x hx => ?_) (fun h₁ tk F X => ?_) hco hgen hk
  · have hx' : x.1 ∈ ns := by rw [← hmap]; exact List.mem_map_of_mem hx
    rcases hkd _ hx' with q | q
    · exact .inl q
    · obtain ⟨c, hc⟩ := hcs _ q
      exact .inr ⟨q, by rw [hc]; rfl⟩
  · generalize henv : envOfC f sc s.heap.objs.size a cd = env at F X ⊢
    have hloc : env.locals = s.heap.objs.size := by rw [← henv]; rfl
    have hcells : env.cells = cellsFrom (s.heap.objs.size + 1) sc.names [] := by rw [← henv]; rfl
    have hsc : env.scope = sc := by rw [← henv]; rfl
    have hkind : ∀ x, env.kindOf x = sc.names.lookup x := fun x => by rw [← henv]; rfl
    generalize hs1 : ({ s with heap := h₁, toks := tk } : Shared) = s₁
    have hh : s₁.heap = h₁ := by rw [← hs1]
    have x₁ : Ext s s₁ := by rw [← hs1]; exact ⟨F.keep, fun _ _ e => e, id, rfl⟩
    have fresh : ∀ n c, env.cells.lookup n = some c → s.heap.get? c = none := fun n c e => by
      rw [hcells] at e
      have := X.above n c (mem_of_lookup e)
      cases q : s.heap.get? c with
      | none => rfl
      | some o => exact absurd (Heap.lt_size q) (Nat.not_lt.mpr (Nat.le_of_lt this))
    let W' : Addr → Prop := fun b => W b ∨ b = env.locals ∨ ∃ n, env.cells.lookup n = some b
    have wide : ∀ b o, s.heap.get? b = some o → W' b → W b := fun b o hb q => by
      rcases q with q | q | ⟨n, q⟩
      · exact q
      · subst q; rw [hloc, get_size] at hb; cases hb
      · rw [fresh n b q] at hb; cases hb
    have rs : GReps G W' s₁.heap vs ds := (r.widen wide).ext x₁
    have FF : FnFrame G s W env W' none none (ns.zip ds) s₁ := by
      refine ⟨{ base₀ := B, ext := x₁, bare := x₁.bare hbr, fk := by rw [hsc]; exact hk, gl := by rw [← henv]; rfl, bl := by rw [← henv]; rfl, low := ?_, wl := .inr (.inl rfl), wc := fun x c e => .inr (.inr ⟨x, e⟩), hi := by rw [hloc]; exact get_size _, ns := ?_, cl := ?_, kd := ?_, apart := fun x y c e e' => by rw [hcells] at e e'; exact name_of_addr X.apart (mem_of_lookup e) (mem_of_lookup e'), mu := fun _ e => nomatch e },
        fresh, fun x hx => by rw [hkind] at hx; rw [hcells]; exact hcs x hx, fun b q => .inl q, lo, fun _ => rfl⟩
      · rintro b (q | q | ⟨n, q⟩)
        · obtain ⟨o, e⟩ := lo b q; exact ⟨o, x₁.keep b o e⟩
        · subst q; obtain ⟨o, _, _, ho, _⟩ := F.ns; rw [hh, hloc]; exact ⟨o, ho⟩
        · rw [hcells] at q; obtain ⟨o, ho, _⟩ := X.cell n b q; rw [hh]; exact ⟨o, ho⟩
      · refine ⟨_, by rw [hh, hloc]; exact F.ns, fun x d e kx => ?_⟩
        obtain ⟨v, hv, rv⟩ := zip_reps ns rs e
        exact ⟨v, bindL_lookup _ _ _ _ _ (by rw [hmap]; exact hnd) hv kx, .inl ⟨nofun, rv⟩⟩
      · intro x c e
        refine ⟨_, by rw [hh]; rw [hcells] at e; exact X.cell x c e, fun d e' kx => ?_⟩
        obtain ⟨v, hv, rv⟩ := zip_reps ns rs e'
        exact ⟨v, bindC_lookup _ _ _ _ _ (by rw [hmap]; exact hnd) hv (by rw [kx]; nofun), .inl ⟨nofun, rv⟩⟩
      · intro x d e
        obtain ⟨v, hv, _⟩ := zip_reps ns rs e
        have hx : x ∈ ns := by rw [← hmap]; exact List.mem_map_of_mem (lookup_mem hv)
        rcases hkd x hx with q | q
        · exact .inl (by rw [hkind]; exact q)
        · exact .inr ⟨by rw [hkind]; exact q, by rw [hcells]; exact hcs x q⟩
    refine wpAny_mono (h (A.deeper env) s W s₁ env W' none (R.deeper env) hsc FF) (fun fl s' q => ?_) fun _ _ q => q
    obtain ⟨W₂, mr₂, F₂, _, _, fo⟩ := q
    cases fl with
    | ret v => exact ⟨v, rfl, F₂.ext, fo⟩
    | _ => exact fo.elim
end
end Mine
end

noncomputable section
open PySem PyProof.Rows
set_option Elab.async false
set_option linter.all false
set_option autoImplicit false
namespace Mine

/- the cells that a comprehension's block takes along -/
noncomputable def clOf (cells : List (Str × Addr)) : List (Str × NameKind) → List (Str × Addr) → List (Str × Addr)
  | [], acc => acc
  | (n, k) :: r, acc => if k == .free then (match cells.lookup n with | some c => clOf cells r ((n, c) :: acc) | none => clOf cells r acc) else clOf cells r acc

theorem clOf_forIn (env : Env) : ∀ (ns : List (Str × NameKind)) (acc : List (Str × Addr)), (∀ n, (n, NameKind.free) ∈ ns → ∃ c, env.cells.lookup n = some c) →
    (forIn ns acc fun (x : Str × NameKind) (cs : List (Str × Addr)) => (match x with | (name, kind) => (if (kind == NameKind.free) = true then do let a ← cellOf env name; pure (ForInStep.yield ((name, a) :: cs)) else pure (ForInStep.yield cs) : Sem (ForInStep (List (Str × Addr)))))) = pure (clOf env.cells ns acc)
  | [], acc, _ => rfl
  | (n, kd) :: r, acc, h => by
    rw [List.forIn_cons]
    unfold clOf
    cases hk : kd == NameKind.free with
    | false =>
      simp only [hk, Bool.false_eq_true, if_false, pure_bind, ↓reduceIte]
      exact clOf_forIn env r acc fun m hm => h m (List.mem_cons_of_mem _ hm)
    | true =>
      have hk' : kd = .free := by simpa using hk
      subst hk'
      obtain ⟨c, hc⟩ := h n (List.mem_cons_self ..)
      simp only [beq_self_eq_true, if_true, ↓reduceIte, hc, cellOf, pure_bind]
      exact clOf_forIn env r _ fun m hm => h m (List.mem_cons_of_mem _ hm)
theorem closureFor_eq {scope : Scope} {env : Env} (h : ∀ n, (n, NameKind.free) ∈ scope.names → ∃ c, env.cells.lookup n = some c) : closureFor scope env = pure (clOf env.cells scope.names []) := by
  have := clOf_forIn env scope.names [] h
  unfold closureFor
  simp only [bind_pure]
  exact this
theorem clOf_lookup (cells : List (Str × Addr)) {x : Str} {c : Addr} : ∀ (ns : List (Str × NameKind)) (acc : List (Str × Addr)), (∀ y d, acc.lookup y = some d → cells.lookup y = some d) → (clOf cells ns acc).lookup x = some c → cells.lookup x = some c
  | [], acc, ha, h => ha x c h
  | (n, kd) :: r, acc, ha, h => by
    unfold clOf at h
    split at h
    · split at h
      · rename_i d hd
        refine clOf_lookup cells r _ (fun y e hy => ?_) h
        by_cases hyn : y = n
        · subst hyn; simp [List.lookup] at hy; subst hy; exact hd
        · have : (y == n) = false := by simpa using hyn
          rw [List.lookup, this] at hy; exact ha y e hy
      · exact clOf_lookup cells r acc ha h
    · exact clOf_lookup cells r acc ha h
theorem clOf_some (cells : List (Str × Addr)) {x : Str} : ∀ (ns : List (Str × NameKind)) (acc : List (Str × Addr)), (∃ c, cells.lookup x = some c) → ((∃ c, acc.lookup x = some c) ∨ (x, NameKind.free) ∈ ns) → ∃ c, (clOf cells ns acc).lookup x = some c
  | [], acc, _, h => by
    rcases h with h | h
    · exact h
    · cases h
  | (n, kd) :: r, acc, hx, h => by
    unfold clOf
    have step : ∀ acc', (∀ c, acc.lookup x = some c → ∃ c, acc'.lookup x = some c) → ((x, NameKind.free) = (n, kd) → ∃ c, acc'.lookup x = some c) → ∃ c, (clOf cells r acc').lookup x = some c := fun acc' h1 h2 => by
      refine clOf_some cells r acc' hx ?_
      rcases h with ⟨c, h⟩ | h
      · exact .inl (h1 c h)
      · rcases List.mem_cons.mp h with h | h
        · exact .inl (h2 h)
        · exact .inr h
    split
    · rename_i hk
      split
      · rename_i d hd
        refine step _ (fun c hc => ?_) fun e => ?_
        · by_cases hyn : x = n
          · subst hyn; exact ⟨d, by simp [List.lookup]⟩
          · have : (x == n) = false := by simpa using hyn
            exact ⟨c, by rw [List.lookup, this]; exact hc⟩
        · cases e; exact ⟨d, by simp [List.lookup]⟩
      · rename_i hd
        refine step _ (fun c hc => ⟨c, hc⟩) fun e => ?_
        cases e
        obtain ⟨c, hc⟩ := hx
        rw [hd] at hc; cases hc
    · rename_i hk
      refine step _ (fun c hc => ⟨c, hc⟩) fun e => ?_
      cases e
      exact absurd rfl hk

/- the block's names as they stand in a function -/
noncomputable def relabelS (scope sc : Scope) : Scope :=
  { scope with names := scope.names.map fun (n, k) => if (k == .free && sc.kind == .function && sc.names.lookup n == some .cell) then (n, .cell) else (n, k) }

section
variable {G : Glo} {s₀ : Shared} {env : Env} {W : Addr → Prop} {mv : Option Str} {mr : Option Addr} {σ σ' : Sig} {s s' : Shared}
theorem Frame.forget (F : Frame G s₀ env W mv mr σ s) (h : ∀ x d, σ'.lookup x = some d → σ.lookup x = some d) : Frame G s₀ env W mv mr σ' s where
  base₀ := F.base₀
  ext := F.ext
  bare := F.bare
  fk := F.fk
  gl := F.gl
  bl := F.bl
  low := F.low
  wl := F.wl
  wc := F.wc
  hi := F.hi
  ns := let ⟨m, hm, q⟩ := F.ns; ⟨m, hm, fun x d e k => q x d (h x d e) k⟩
  cl := fun x c e => let ⟨ov, h1, h2⟩ := F.cl x c e; ⟨ov, h1, fun d e k => h2 d (h x d e) k⟩
  kd := fun x d e => F.kd x d (h x d e)
  apart := F.apart
  mu := F.mu
end

inductive CompRel (test : PV → Bool → Prop) (elt : PV → PV → Prop) : List PV → List PV → Prop
  | nil : CompRel test elt [] []
  | skip {d : PV} {ds es : List PV} : test d false → CompRel test elt ds es → CompRel test elt (d :: ds) es
  | take {d e : PV} {ds es : List PV} : test d true → elt d e → CompRel test elt ds es → CompRel test elt (d :: ds) (e :: es)

theorem CompRel.nil_inv {test : PV → Bool → Prop} {elt : PV → PV → Prop} {es : List PV} (h : CompRel test elt [] es) : es = [] := by
  cases h; rfl
theorem CompRel.cons_inv {test : PV → Bool → Prop} {elt : PV → PV → Prop} {d : PV} {ds es : List PV} (h : CompRel test elt (d :: ds) es) {R : Prop} (k1 : test d false → CompRel test elt ds es → R)
    (k2 : ∀ e es', es = e :: es' → test d true → elt d e → CompRel test elt ds es' → R) : R := by
  cases h with
  | skip a b => exact k1 a b
  | take a b c => exact k2 _ _ rfl a b c

/- the block of a list comprehension: its names' kinds -/
structure CompScope (scope sc : Scope) (mv : Option Str) (σ σc : Sig) (x : Str) : Prop where
  kind : scope.kind = .function
  nocell : ∀ y ∈ scope.names, y.2 ≠ NameKind.cell
  locs : ∀ y ∈ scope.names, y.2 = NameKind.local → scope.names.lookup y.1 = some .local
  var : scope.names.lookup x = some .local
  free : ∀ n, (n, NameKind.free) ∈ scope.names → sc.names.lookup n = some .cell
  capt : ∀ y d, σc.lookup y = some d → σ.lookup y = some d ∧ mv ≠ some y ∧ (y, NameKind.free) ∈ scope.names ∧ (relabelS scope sc).names.lookup y = some .cell
  fnk : sc.kind = .function

noncomputable def SemTests (G : Glo) (k : Nat) (sc : Scope) (σ : Sig) (ifs : List Expr) (b : Bool) : Prop := match ifs with
  | [] => b = true
  | [c] => SemB G k sc none σ c b
  | _ => False

theorem SemTests.run {G : Glo} {k : Nat} {sc : Scope} {σ : Sig} {ifs : List Expr} {b : Bool} (h : SemTests G k sc σ ifs b) {A : Around} {s₀ s : Shared} {env : Env} {W : Addr → Prop} {mr : Option Addr} (R : Room k A) (hs : env.scope = sc) (F : Frame G s₀ env W none mr σ s) :
    wpAny G.M A (forIn ifs true fun c r => if r = true then do let ok ← isTrue c env (eval c env); pure (ForInStep.yield ok) else pure (ForInStep.yield r)) (fun c s' => c = b ∧ Ext s s') No s := by
  unfold SemTests at h
  split at h
  · subst h; exact wpAny_tests_nil ⟨rfl, Ext.refl s⟩
  · exact wpAny_tests_one (h A s₀ s env W mr R hs F)
  · exact h.elim

inductive CompAt (G : Glo) (test : PV → Bool → Prop) (elt : PV → PV → Prop) (s : Shared) (cenv : Env) (Wc : Addr → Prop) (σc : Sig) (St : Nat → Shared → Prop) (ds es : List PV) (D : Addr) (n : Nat) (s' : Shared) : Prop
  | mk (i : Nat) (pre rest : List PV) (ys : List Value) (m : Nat) : n = ds.length - i → i ≤ ds.length → pre.length ≤ i → es = pre ++ rest → CompRel test elt (ds.drop i) rest → Frame G s cenv Wc none none σc s' → St i s' → s'.heap.get? D = some (LObj ys m) → GReps G Wc s'.heap ys pre →
      CompAt G test elt s cenv Wc σc St ds es D n s'

section
variable {G : Glo} {k : Nat} {sc : Scope} {mv : Option Str} {σ σc : Sig}

theorem comp_core {A : Around} {s₀ s s₂ : Shared} {env : Env} {W : Addr → Prop} {mr : Option Addr} {Pw : Addr → Prop} {it : Value} {elt iter : Expr} {x : Str} {px pos : Pos} {ifs : List Expr} {scope : Scope} {ds es : List PV} {RR : Value → Addr → Result → Shared → Prop}
    (R : Room k A) (hsc : env.scope = sc) (F : Frame G s₀ env W mv mr σ s) (hfc : ∀ n, (n, NameKind.free) ∈ scope.names → ∃ c, env.cells.lookup n = some c) (ex : Ext s s₂) (hPw : ∀ b, Pw b → s.heap.get? b = none ∧ ∃ o, s₂.heap.get? b = some o)
    (hX : ∀ X : Addr → Prop, (∀ b, X b → s₂.heap.get? b = none) → ∃ St, Iter G A (fun a => (W a ∨ Pw a) ∨ X a) Pw it ds St ∧ St 0 s₂) (CS : CompScope scope sc mv σ σc x) (hsz : ds.length ≤ 2 ^ 20)
    (h : CompRel (fun d b => SemTests G k (relabelS scope sc) (put σc x d) ifs b) (fun d e => SemE G k (relabelS scope sc) none (put σc x d) elt e) ds es)
    (hRR : ∀ D C n ys s', Ext s s' → s.heap.get? D = none → s.heap.get? C = none → D ≠ C → s'.heap.get? D = some (LObj ys n) → GReps G (fun a => W a ∨ a = C) s'.heap ys es → (∃ m, s'.heap.Ns C m) → AllBare s'.gens → RR (.ref D) C (.ok .next) s') :
    wpAny G.M A (newList []) (fun acc s₃ => wpAny G.M A (newFunctionEnv scope env.globals (clOf env.cells scope.names []) [] env.qual none .none (some env)) (fun cenv s₄ =>
      codeAny G.M A (.compStart (.ListComp elt [⟨.Name x px, iter, ifs, 0⟩] scope pos) 0 it acc { cenv with scope := relabel scope env }) (RR acc cenv.locals) s₄) No s₃) No s₂ := by
  refine wpAny_newObj_type (wpAny_newFunctionEnv CS.nocell (by intro y hy; simp at hy) (fun h₁ hns₁ hsb₁ => ?_) CS.kind) (by show _ ≤ sizeLine; simp [sizeLine])
  dsimp only at hns₁ hsb₁ ⊢
  generalize hD : s₂.heap.objs.size = D at hns₁ hsb₁ ⊢
  generalize hH2 : s₂.heap.push { cls := .type "list", dict := none, data := .seq ([] : List Value).toArray } = H2 at hns₁ hsb₁ ⊢
  generalize hC : H2.objs.size = C at hns₁ hsb₁ ⊢
  have hCD : C = D + 1 := by rw [← hC, ← hH2, Heap.size_push, hD]
  have hDC : D ≠ C := by rw [hCD]; exact Nat.ne_of_lt (Nat.lt_succ_self _)
  generalize hs4 : ({ s₂ with heap := h₁, toks := s₂.toks + ([] : List (Str × Value)).length } : Shared) = s₄
  have hh : s₄.heap = h₁ := by rw [← hs4]
  have s2D : s₂.heap.get? D = none := by rw [← hD]; exact get_size _
  have s2C : s₂.heap.get? C = none := by
    cases q : s₂.heap.get? C with
    | none => rfl
    | some o => have := Heap.lt_size q; rw [hD, hCD] at this; exact absurd this (Nat.not_lt.mpr (Nat.le_succ D))
  have x4 : Ext s₂ s₄ := by
    rw [← hs4]
    refine ⟨fun b o e => ?_, fun _ _ e => e, id, rfl⟩
    have hb : b ≠ C := ne_of_get e s2C
    exact hsb₁.extBut b o hb (Heap.get?_push_of_some _ (hH2 ▸ Heap.get?_push_of_some _ e))
  have hacc : s₄.heap.get? D = some (LObj [] 0) := by
    rw [hh]
    refine hsb₁.extBut D _ hDC (Heap.get?_push_of_some _ ?_)
    rw [← hH2, ← hD]; exact Heap.get?_push_size _ rfl
  have xs4 := ex.trans x4
  have fr : ∀ b, s₂.heap.get? b = none → s.heap.get? b = none := fun b e => ex.back e
  obtain ⟨St, It, hst⟩ := hX (fun b => b = D ∨ b = C) (fun b q => by rcases q with rfl | rfl <;> assumption)
  -- the block's environment
  generalize henv : ({ newEnv scope C env.globals (clOf env.cells scope.names []) env.qual none .none (some env) builtinsNs with scope := relabel scope env } : Env) = cenv
  have hcl : cenv.locals = C := by rw [← henv]; rfl
  have hcc : cenv.cells = clOf env.cells scope.names [] := by rw [← henv]; rfl
  have hcs : cenv.scope = relabelS scope sc := by rw [← henv, ← hsc]; rfl
  have hck : ∀ y, cenv.kindOf y = (relabelS scope sc).names.lookup y := fun y => by unfold Env.kindOf; rw [hcs]
  let Wc : Addr → Prop := fun a => (W a ∨ Pw a) ∨ (a = D ∨ a = C)
  have wWc : ∀ b o, s.heap.get? b = some o → Wc b → W b := fun b o e q => by
    rcases q with (q | q) | q | q
    · exact q
    · rw [(hPw b q).1] at e; cases e
    · obtain rfl := q.symm; rw [fr _ s2D] at e; cases e
    · obtain rfl := q.symm; rw [fr _ s2C] at e; cases e
  have hvx : cenv.kindOf x = some .local := by rw [hck]; rw [← hsc]; exact lookup_relabel_local CS.var
  have F₄ : Frame G s cenv Wc none none σc s₄ := by
    refine { base₀ := F.base, ext := xs4, bare := xs4.bare F.bare, fk := ?_, gl := ?_, bl := ?_, low := ?_, wl := ?_, wc := ?_, hi := ?_, ns := ?_, cl := ?_, kd := ?_, apart := ?_, mu := fun _ e => nomatch e }
    · rw [hcs]; exact CS.kind
    · rw [← henv]; exact F.gl
    · rw [← henv]; exact F.bl
    · rintro a ((q | q) | rfl | rfl)
      · obtain ⟨o, e⟩ := F.low a q; exact ⟨o, xs4.keep a o e⟩
      · obtain ⟨o, e⟩ := (hPw a q).2; exact ⟨o, x4.keep a o e⟩
      · exact ⟨_, hacc⟩
      · obtain ⟨o, _, _, ho, _⟩ := hns₁; exact ⟨o, by rw [hh]; exact ho⟩
    · rw [hcl]; exact .inr (.inr rfl)
    · intro y c e; rw [hcc] at e; exact .inl (.inl (F.wc y c (clOf_lookup _ _ _ (fun _ _ h => by simp at h) e)))
    · rw [hcl]; exact fr _ s2C
    · refine ⟨_, by rw [hcl, hh]; exact hns₁, fun y d e ky => ?_⟩
      have := (CS.capt y d e).2.2.2
      rw [hck, this] at ky; cases ky
    · intro y c e
      rw [hcc] at e
      have e' := clOf_lookup _ _ _ (fun _ _ h => by simp at h) e
      obtain ⟨ov, h1, h2⟩ := F.cl y c e'
      refine ⟨ov, h1.keeps xs4.keep, fun d ed ky => ?_⟩
      obtain ⟨c1, c2, c3, c4⟩ := CS.capt y d ed
      have kcell : env.kindOf y = some .cell := by unfold Env.kindOf; rw [hsc]; exact CS.free y c3
      obtain ⟨v, h3, h4⟩ := h2 d c1 kcell
      refine ⟨v, h3, .inl ⟨nofun, ?_⟩⟩
      rcases h4 with ⟨_, q⟩ | ⟨q, _⟩
      · exact (q.widen wWc).ext xs4
      · exact absurd q c2
    · intro y d e
      obtain ⟨c1, c2, c3, c4⟩ := CS.capt y d e
      refine .inr ⟨by rw [hck]; exact c4, ?_⟩
      rw [hcc]
      exact clOf_some _ _ _ (hfc y c3) (.inr c3)
    · intro y z c e e'
      rw [hcc] at e e'
      exact F.apart y z c (clOf_lookup _ _ _ (fun _ _ h => by simp at h) e) (clOf_lookup _ _ _ (fun _ _ h => by simp at h) e')
  have h0D : s.heap.get? D = none := fr _ s2D
  have h0C : s.heap.get? C = none := fr _ s2C
  have PwC : ¬ Pw C := fun q => by obtain ⟨o, e⟩ := (hPw C q).2; rw [s2C] at e; cases e
  have PwD : ¬ Pw D := fun q => by obtain ⟨o, e⟩ := (hPw D q).2; rw [s2D] at e; cases e
  have cellW : ∀ y c, cenv.cells.lookup y = some c → W c := fun y c e => by rw [hcc] at e; exact F.wc y c (clOf_lookup _ _ _ (fun _ _ h => by simp at h) e)
  have Wdis : ∀ a, W a → ¬ Pw a ∧ a ≠ D ∧ a ≠ C := fun a q => by
    obtain ⟨o, e⟩ := F.low a q
    exact ⟨fun p => (by rw [(hPw a p).1] at e; cases e), ne_of_get e h0D, ne_of_get e h0C⟩
  have hst4 : St 0 s₄ := It.frame 0 s₂ s₄ hst fun b o _ e => x4.keep b o e
  have loop : codeAny G.M A (.compLoop (.ListComp elt [⟨.Name x px, iter, ifs, 0⟩] scope pos) 0 it (.ref D) cenv) (RR (.ref D) C) s₄ := by
    refine codeAny_compLoop_tests (CompAt G (fun d b => SemTests G k (relabelS scope sc) (put σc x d) ifs b) (fun d e => SemE G k (relabelS scope sc) none (put σc x d) elt e) s cenv Wc σc St ds es D) ?_ ds.length ⟨0, [], es, [], 0, rfl, Nat.zero_le _, Nat.le_refl _, rfl, h, F₄, hst4, hacc, .nil⟩ (by
        intro v
        show letOwnedTupleGo (.Name x px) it v = pure ()
        rfl)
    rintro n s' ⟨i, pre, rest, ys, m, hn, hi, hpl, he, hrel, F', st, ho, rs⟩
    rcases opt_or ds[i]? with hd | ⟨d, hd⟩
    · have hi' := drop_end hi hd
      rw [hi', List.drop_length] at hrel
      rw [hrel.nil_inv, List.append_nil] at he
      refine It.done s' _ _ (hi' ▸ st) F'.base F'.bare F'.low fun s'' mv' => ?_
      have up : ∀ b o, ¬ Pw b → s'.heap.get? b = some o → s''.heap.get? b = some o := mv'.keep
      refine hRR D C m ys s'' ⟨fun b o e => up b o (fun q => by rw [(hPw b q).1] at e; cases e) (F'.ext.keep b o e), fun g y e => mv'.gens g y id (F'.ext.gens g y e), fun q => mv'.bare (F'.ext.bare q), mv'.os.trans F'.ext.os⟩ h0D h0C hDC (up _ _ PwD ho) ?_ ?_ (mv'.bare F'.bare)
      · rw [he]; exact (rs.keep fun b o hb e => up b o (fun q => hb (.inl (.inr q))) e).widen fun a o _ q => q.elim (fun q => .inl (.inl q)) fun q => .inr (.inr q)
      · obtain ⟨mm, hm, _⟩ := F'.ns
        rw [hcl] at hm
        exact ⟨mm, hm.at' fun o e => up _ o PwC e⟩
    · obtain ⟨hlt, hdrop⟩ := drop_at hd
      rw [hdrop] at hrel
      refine It.item i d s' _ _ hd st F'.base F'.bare F'.low fun v s'' mv' st'' rv => ?_
      have F'' : Frame G s cenv Wc none none σc s'' := F'.mvd mv' (fun b q => .inl (.inr q)) (fun b q => (hPw b q).1) (fun _ q => q.elim) (fun a q => q) F'.feet (fun a q => by
        by_cases p : Pw a
        · exact It.alive _ _ st'' a p
        · obtain ⟨o, e⟩ := F'.low a q; exact ⟨o, mv'.keep a o p e⟩) (by rw [hcl]; exact PwC) (fun y c e => (Wdis c (cellW y c e)).1) (fun r e => nomatch e)
      have ho'' : s''.heap.get? D = some (LObj ys m) := mv'.keep _ _ PwD ho
      have rs'' : GReps G Wc s''.heap ys pre := rs.keep fun b o hb e => mv'.keep b o (fun q => hb (.inl (.inr q))) e
      refine wpAny_assign_Name (F''.store (.inl hvx) nofun rv fun s₅ F₅ e₅ => ?_)
      have own5 : ∀ b, Own cenv none b → b = C ∨ W b := fun b q => by
        rcases q with q | ⟨y, q⟩ | q
        · exact .inl (q.trans hcl)
        · exact .inr (cellW y b q)
        · cases q
      have keep5 : ∀ b o, ¬ Wc b ∨ Pw b ∨ b = D → s''.heap.get? b = some o → s₅.heap.get? b = some o := fun b o hb e => e₅.keep b o (fun q => by
        rcases own5 b q with q | q
        · obtain rfl := q.symm; rcases hb with hb | hb | hb
          · exact hb (.inr (.inr rfl))
          · exact PwC hb
          · exact hDC hb.symm
        · rcases hb with hb | hb | hb
          · exact hb (.inl (.inl q))
          · exact (Wdis b q).1 hb
          · exact (Wdis b q).2.1 hb) e
      have st5 : St (i + 1) s₅ := It.frame _ s'' s₅ st'' fun b o hb e => keep5 b o (hb.elim .inl fun q => .inr (.inl q)) e
      have ho5 : s₅.heap.get? D = some (LObj ys m) := keep5 _ _ (.inr (.inr rfl)) ho''
      have rs5 : GReps G Wc s₅.heap ys pre := rs''.keep fun b o hb e => keep5 b o (.inl hb) e
      have stX : ∀ {j s₁ s₂}, St j s₁ → Ext s₁ s₂ → St j s₂ := fun {j s₁ s₂} st e => It.frame j s₁ s₂ st fun b o _ q => e.keep b o q
      have forg : ∀ {s₁}, Frame G s cenv Wc none none (put σc x d) s₁ → Frame G s cenv Wc none none σc s₁ := fun F => F.forget fun y e hy => by
        rw [put_lookup]
        have : y ≠ x := by
          rintro rfl
          have := (CS.capt y e hy).2.2.2
          rw [← hck, hvx] at this; cases this
        rw [if_neg this]; exact hy
      have hlen : ys.length ≤ 2 ^ 20 := by rw [rs.length]; (first | lia | omega)
      refine hrel.cons_inv (fun ht hr => ?_) fun e' es' he' ht hel hr => ?_
      · refine wpAny_mono (ht.run R hcs F₅) (fun b s₆ q => ?_) fun _ _ q => q.elim
        obtain ⟨rfl, x6⟩ := q
        simp only [Bool.false_eq_true, if_false]
        exact ⟨ds.length - (i + 1), by (first | lia | omega), i + 1, pre, rest, ys, m, rfl, hlt, by (first | lia | omega), he, hr, forg (F₅.more x6), stX st5 x6, x6.keep _ _ ho5, rs5.ext x6⟩
      · refine wpAny_mono (ht.run R hcs F₅) (fun b s₆ q => ?_) fun _ _ q => q.elim
        obtain ⟨rfl, x6⟩ := q
        simp only [if_true]
        refine wpAny_mono (hel A s s₆ cenv Wc none R hcs (F₅.more x6)) (fun u s₇ q => ?_) fun _ _ q => q.elim
        obtain ⟨x7, ru⟩ := q
        have x67 := x6.trans x7
        refine wpAny_list_append_plain ⟨m, x67.keep _ _ ho5⟩ (fun h' hl hs => ?_) (by simp; exact Nat.le_trans hlen sizeLine_big)
        obtain ⟨m', hl⟩ := hl
        have hl' : h'.get? D = some (LObj (ys ++ [u]) m') := by rw [hl]; simp
        have md : Mvd (fun b => b = D) (fun _ => False) s₇ { s₇ with heap := h' } := mvd_same (tk := s₇.toks) hs
        have F₇ := F₅.more x67
        have F₈ : Frame G s cenv Wc none none (put σc x d) { s₇ with heap := h' } := F₇.mvd md (fun b q => by obtain rfl := q.symm; exact .inr (.inl rfl)) (fun b q => by obtain rfl := q.symm; exact h0D) (fun _ q => q.elim) (fun a q => q) F₇.feet (fun a q => by
          by_cases p : a = D
          · obtain rfl := p.symm; exact ⟨_, hl'⟩
          · obtain ⟨o, e⟩ := F₇.low a q; exact ⟨o, md.keep a o p e⟩) (by rw [hcl]; exact Ne.symm hDC) (fun y c e => (Wdis c (cellW y c e)).2.1) (fun r e => nomatch e)
        have up8 : ∀ b o, ¬ Wc b → s₇.heap.get? b = some o → h'.get? b = some o := fun b o hb e => md.keep b o (fun q => hb (by obtain rfl := q.symm; exact .inr (.inl rfl))) e
        refine ⟨ds.length - (i + 1), by (first | lia | omega), i + 1, pre ++ [e'], es', ys ++ [u], m', rfl, hlt, by simp; (first | lia | omega), by rw [he, he']; simp, hr, forg F₈, ?_, hl', ?_⟩
        · refine It.frame _ s₇ _ (stX st5 x67) fun b o hb e => md.keep b o (fun q => ?_) e
          obtain rfl := q.symm
          rcases hb with hb | hb
          · exact hb (.inr (.inl rfl))
          · exact PwD hb
        · exact ((rs5.ext x67).keep up8).append (.cons (ru.keep up8) .nil)
  exact codeAny_compStart_list loop (It.self 0 _ _ _ hst4 loop)
end
end Mine
end

noncomputable section
open PySem PyProof.Rows
set_option Elab.async false
set_option linter.all false
set_option autoImplicit false
namespace Mine
section
variable {G : Glo} {k : Nat} {sc : Scope} {mv : Option Str} {σ σc : Sig}

theorem sem_listcomp {elt iter : Expr} {x : Str} {px pos : Pos} {ifs : List Expr} {scope : Scope} {ds es : List PV} (hi : SemI G k sc mv σ iter ds) (hn : notSet iter = true) (CS : CompScope scope sc mv σ σc x)
    (hb : ∀ n, (n, NameKind.free) ∈ scope.names → ∃ d, σ.lookup n = some d) (hsz : ds.length ≤ 2 ^ 20)
    (h : CompRel (fun d b => SemTests G k (relabelS scope sc) (put σc x d) ifs b) (fun d e => SemE G k (relabelS scope sc) none (put σc x d) elt e) ds es) :
    SemE G k sc mv σ (.ListComp elt [⟨.Name x px, iter, ifs, 0⟩] scope pos) (.lst es) := fun A s₀ s env W mr R hsc F => by
  have hfc : ∀ n, (n, NameKind.free) ∈ scope.names → ∃ c, env.cells.lookup n = some c := fun n hn => by
    obtain ⟨d, hd⟩ := hb n hn
    rcases F.kd n d hd with q | ⟨_, q⟩
    · have := CS.free n hn
      unfold Env.kindOf at q; rw [hsc, this] at q; cases q
    · exact q
  rw [eval_ListComp]
  refine wpAny_comprehension_free (use := none) rfl (fun v => notSet_folded hn env v) (closureFor_eq hfc) CS.kind CS.locs (wpAny_mono (hi A s₀ s env W mr R hsc F) (fun v s₁ q => wpAny_mono q (fun it s₂ q => ?_) fun _ _ q => q) fun _ _ q => q)
  obtain ⟨Pw, ex, h1, hX⟩ := q
  refine comp_core R hsc F hfc ex h1 hX CS hsz h fun D C n ys s' x' hD hC hDC ho rs hns hba => ?_
  obtain ⟨m, hm⟩ := hns
  refine ⟨m, hm, fun h' hs => ⟨⟨fun b o e => hs.extBut b o (ne_of_get e hC) (x'.keep b o e), x'.gens, x'.bare, x'.os⟩, ?_⟩⟩
  refine .lst (fun q => ?_) (hs.extBut D _ hDC ho) ((rs.keep fun b o hb e => hs.extBut b o (fun q => hb (.inr q)) e).widen fun a o _ q => .inl q)
  obtain ⟨o, e⟩ := F.low D q
  rw [hD] at e; cases e

theorem semS_assign_comp {elt iter : Expr} {x y : Str} {px py pos spos : Pos} {ifs : List Expr} {scope : Scope} {ds es : List PV} (hy : okName sc mv y) (hi : SemI G k sc mv σ iter ds) (hn : notSet iter = true) (CS : CompScope scope sc mv σ σc x)
    (hb : ∀ n, (n, NameKind.free) ∈ scope.names → ∃ d, σ.lookup n = some d) (hsz : ds.length ≤ 2 ^ 20)
    (hsw : ∀ env : Env, env.scope = sc → swapsWith (.ListComp elt [⟨.Name x px, iter, ifs, 0⟩] scope pos) (some (.Name y py)) spos.line env = pure true)
    (h : CompRel (fun d b => SemTests G k (relabelS scope sc) (put σc x d) ifs b) (fun d e => SemE G k (relabelS scope sc) none (put σc x d) elt e) ds es) :
    SemS G k sc mv σ (.Assign [.Name y py] (.ListComp elt [⟨.Name x px, iter, ifs, 0⟩] scope pos) spos) mv (put σ y (.lst es)) .next := fun A s₀ W₀ s env W mr R hsc F => by
  have hfc : ∀ n, (n, NameKind.free) ∈ scope.names → ∃ c, env.cells.lookup n = some c := fun n hn => by
    obtain ⟨d, hd⟩ := hb n hn
    rcases F.kd n d hd with q | ⟨_, q⟩
    · have := CS.free n hn
      unfold Env.kindOf at q; rw [hsc, this] at q; cases q
    · exact q
  rw [exec_Assign_Name_used _ _ _ _ (hsw env hsc)]
  refine wpAny_bind (wpAny_standAt (wpAny_bind ?_))
  show wpAny _ A (do let _ ← comprehension (.ListComp elt [⟨.Name x px, iter, ifs, 0⟩] scope pos) scope env _ (newList []) false (eval iter env) (some (assign (.Name y py) env))) _ _ s
  refine wpAny_bind (wpAny_mono (wpAny_comprehension_free (use := some (assign (.Name y py) env)) (Q := fun _ s' => EndS G s₀ W₀ env W mv mr s mv (put σ y (.lst es)) .next .next s') rfl (fun v => notSet_folded hn env v) (closureFor_eq hfc) CS.kind CS.locs
    (wpAny_mono (hi A s₀ s env W mr R hsc F.toFrame) (fun v s₁ q => wpAny_mono q (fun it s₂ q => ?_) fun _ _ q => q) fun _ _ q => q)) (fun _ s' hq => wpAny_pure (wpAny_pure hq)) fun _ _ e => e)
  obtain ⟨Pw, ex, h1, hX⟩ := q
  refine comp_core R hsc F.toFrame hfc ex h1 hX CS hsz h fun D C n ys s' x' hD hC hDC ho rs hns hba => ?_
  have offD : ¬ (W D ∨ D = C) := by
    rintro (q | q)
    · obtain ⟨o, e⟩ := F.low D q; rw [hD] at e; cases e
    · exact hDC q
  have offC : ¬ W C := fun q => by obtain ⟨o, e⟩ := F.low C q; rw [hC] at e; cases e
  have hC0 : s₀.heap.get? C = none := by
    cases e : s₀.heap.get? C with
    | none => rfl
    | some o => have := F.ext.keep _ _ e; rw [hC] at this; cases this
  have F1 : FnFrame G s₀ W₀ env (fun a => W a ∨ a = C) mv mr σ s' := ⟨F.toFrame.freshP x' (fun r q => q ▸ hC) (fun r q => by subst q; obtain ⟨m, o, _, _, e, _⟩ := hns; exact ⟨o, e⟩), F.hc, F.hcell, fun a q => .inl (F.sup a q), F.w0, F.mn⟩
  show wpAny G.M A (assign (.Name y py) env (.ref D)) _ _ s'
  refine wpAny_assign_Name (F1.put hsc hy (.lst offD ho rs) fun s'' F2 e2 => ?_)
  have ft := F.toFrame.feet
  have ownC : ¬ Own env none C := by
    rintro (q | ⟨z, q⟩ | q)
    · exact offC (q ▸ ft.wl)
    · exact offC (ft.wc z C q)
    · cases q
  obtain ⟨m, hm⟩ := hns
  refine ⟨m, hm.at' fun o e => e2.keep C o ownC e, fun h' hs => ?_⟩
  have md : Mvd (fun b => b = C) (fun _ => False) s'' { s'' with heap := h' } := mvd_same (tk := s''.toks) hs
  refine end_same (F.of (F2.toFrame.mvd md (fun b q => .inr q) (fun b q => q ▸ hC0) (fun _ q => q.elim) (fun a q => .inl q) ft (fun a q => by
    obtain ⟨o, e⟩ := F2.low a (.inl q); exact ⟨o, md.keep a o (fun e => offC (e ▸ q)) e⟩) (fun q => offC (q ▸ ft.wl)) (fun z c e q => offC (q ▸ ft.wc z c e)) (fun r e q => offC (q ▸ ft.wm r e)))) ?_
  have k2 : ExtS (Own env mr) s s'' := (x'.toS _).trans (e2.mono fun b q => q.up)
  exact ⟨fun b o hb e => md.keep b o (ne_of_get e hC) (k2.keep b o hb e), k2.gens, k2.bare, k2.os⟩
end
end Mine
end

noncomputable section
open PySem PyProof.Rows
open PyProof.V (Flat same_str putD FlatPairs)
set_option Elab.async false
set_option linter.all false
set_option autoImplicit false
namespace Mine

section
variable {prog : Program} {w : World} {A : Around} {R : Result → Shared → Prop} {s : Shared}
theorem compLoop_dict {kx vx target iter : Expr} {scope : Scope} {pos : Pos} {it : Value} {D : Addr} {env : Env} (I : Nat → Shared → Prop)
    (turn : ∀ n s, I n s → wpAny (model prog w) A (pyNext it) (fun r s₁ => match r with
      | none => R (.ok .next) s₁
      | some v => wpAny (model prog w) A (letOwnedTupleGo target it v) (fun _ s₁ => wpAny (model prog w) A (assign target env v) (fun _ s₃ =>
          wpAny (model prog w) A (eval kx env) (fun kv s₄ => wpAny (model prog w) A (eval vx env) (fun vv s₅ =>
              wpAny (model prog w) A (dictSet D kv vv) (fun _ s₆ => ∃ m, m < n ∧ I m s₆) No s₅) No s₄) No s₃) No s₁) No s₁) No s)
    (n : Nat) (h : I n s) :
    codeAny (model prog w) A (.compLoop (.DictComp kx vx [⟨target, iter, [], 0⟩] scope pos) 0 it (.ref D) env) R s := by
  refine codeAny_loop rfl I (fun n s hI => ?_) n h
  show wpAny _ A ((compTurn (.DictComp kx vx [⟨target, iter, [], 0⟩] scope pos) 0 it (.ref D) env).onRaise (fun x => do noteFrame x env; theTreesLotGoes x)) _ _ s
  refine wpAny_noted ?_
  rw [compTurn_dict]
  refine wpAny_bind (wpAny_standAt (wpAny_bind (wpAny_mono (turn n s hI) (fun r s₁ h₁ => ?_) fun _ _ h' => h'.elim)))
  cases r with
  | none => exact wpAny_pure h₁
  | some v =>
    refine wpAny_bind (wpAny_mono h₁ (fun _ s₂ h₁ => ?_) fun _ _ h' => h'.elim)
    refine wpAny_bind (wpAny_mono h₁ (fun _ s₂ h₃ => ?_) fun _ _ h' => h'.elim)
    refine wpAny_bind (wpAny_tests_nil ?_)
    exact wpAny_bind (wpAny_bind (wpAny_mono h₃ (fun kv s₄ h₄ => wpAny_bind (wpAny_holding (wpAny_mono h₄ (fun vv s₅ h₅ => wpAny_bind (wpAny_standAt (wpAny_holding (wpAny_mono h₅ (fun _ s₆ h₆ => wpAny_pure ⟨rfl, h₆⟩) fun _ _ h' => h'.elim)))) fun _ _ h' => h'.elim))) fun _ _ h' => h'.elim))
end

inductive DictRel (turn : PV → Str → Int → Prop) : List PV → List (PyData × PyData) → List (PyData × PyData) → Prop
  | nil {D : List (PyData × PyData)} : DictRel turn [] D D
  | cons {d : PV} {ds : List PV} {x : Str} {i : Int} {D D' : List (PyData × PyData)} : turn d x i → DictRel turn ds (putD (.str x) (.int i) D) D' → DictRel turn (d :: ds) D D'

structure DictScope (scope sc : Scope) : Prop where
  kind : scope.kind = .function
  nocell : ∀ y ∈ scope.names, y.2 ≠ NameKind.cell
  nofree : ∀ y ∈ scope.names, y.2 ≠ NameKind.free
  locs : ∀ y ∈ scope.names, y.2 = NameKind.local → scope.names.lookup y.1 = some .local

theorem clOf_nofree (cells : List (Str × Addr)) : ∀ (ns : List (Str × NameKind)) (acc : List (Str × Addr)), (∀ y ∈ ns, y.2 ≠ NameKind.free) → clOf cells ns acc = acc
  | [], _, _ => rfl
  | (n, k) :: r, acc, h => by
    have : (k == NameKind.free) = false := by
      have := h (n, k) (List.mem_cons_self ..)
      simpa using this
    rw [clOf, this]
    simp only [Bool.false_eq_true, if_false]
    exact clOf_nofree cells r acc fun y hy => h y (List.mem_cons_of_mem _ hy)
theorem relabel_nofree {scope : Scope} {env : Env} (h : ∀ y ∈ scope.names, y.2 ≠ NameKind.free) : relabel scope env = scope := by
  unfold relabel
  have : ∀ l : List (Str × NameKind), (∀ y ∈ l, y.2 ≠ NameKind.free) → (l.map fun (n, k) => if (k == .free && env.scope.kind == .function && env.kindOf n == some .cell) = true then (n, NameKind.cell) else (n, k)) = l := by
    intro l
    induction l with
    | nil => intro _; rfl
    | cons y l ih =>
      intro hy
      obtain ⟨n, k⟩ := y
      have hk : (k == NameKind.free) = false := by
        have := hy (n, k) (List.mem_cons_self ..)
        simpa using this
      rw [List.map_cons, ih fun z hz => hy z (List.mem_cons_of_mem _ hz)]
      simp [hk]
  rw [this _ h]

section
variable {G : Glo} {k : Nat} {sc : Scope} {mv : Option Str} {σ : Sig}

theorem putD_length : ∀ (D : List (PyData × PyData)) (a b : PyData), (putD a b D).length ≤ D.length + 1
  | D, a, b => by
    induction D with
    | nil => simp [putD]
    | cons p D ih => unfold putD; split <;> simp_all

theorem no_cell {y : Str} : ∀ l : List (Str × NameKind), (∀ y ∈ l, y.2 ≠ NameKind.cell) → l.lookup y ≠ some .cell
  | [], _, q => nomatch q
  | (n, kd) :: l, hz, q => by
    rw [List.lookup] at q
    split at q
    · exact hz _ (List.mem_cons_self ..) (Option.some.inj q)
    · exact no_cell l (fun z hz' => hz z (List.mem_cons_of_mem _ hz')) q
theorem DictRel.nil_inv {turn : PV → Str → Int → Prop} {D D' : List (PyData × PyData)} (h : DictRel turn [] D D') : D = D' := by
  cases h; rfl
theorem DictRel.cons_inv {turn : PV → Str → Int → Prop} {d : PV} {ds : List PV} {D D' : List (PyData × PyData)} (h : DictRel turn (d :: ds) D D') : ∃ x i, turn d x i ∧ DictRel turn ds (putD (.str x) (.int i) D) D' := by
  cases h with
  | cons a b => exact ⟨_, _, a, b⟩
inductive DictAt (G : Glo) (turn : PV → Str → Int → Prop) (s : Shared) (cenv : Env) (Wc : Addr → Prop) (St : Nat → Shared → Prop) (ds : List PV) (D : List (PyData × PyData)) (Da : Addr) (n : Nat) (s' : Shared) : Prop
  | mk (i : Nat) (Di : List (PyData × PyData)) (kvs : List (Str × Value)) : n = ds.length - i → i ≤ ds.length → kvs.length ≤ i → DictRel turn (ds.drop i) Di D → FnFrame G s (fun _ => False) cenv Wc none none [] s' → St i s' → s'.heap.DictOf (strKind G.prog G.w) Da kvs → FlatPairs PyData.str kvs Di →
      DictAt G turn s cenv Wc St ds D Da n s'

theorem sem_dictcomp {kx vx t iter : Expr} {pos : Pos} {scope : Scope} {ds : List PV} {D : List (PyData × PyData)} (hi : SemI G k sc mv σ iter ds) (hn : notSet iter = true) (DS : DictScope scope sc) (hsz : ds.length ≤ 2 ^ 20)
    (h : DictRel (fun d x i => ∃ σa, Takes scope none t d [] σa ∧ SemE G k scope none σa kx (.str x) ∧ SemE G k scope none σa vx (.int i)) ds [] D) :
    SemE G k sc mv σ (.DictComp kx vx [⟨t, iter, [], 0⟩] scope pos) (.dct D) := fun A s₀ s env W mr R hsc F => by
  rw [arm_eval_DictComp]
  refine wpAny_comprehension_free (use := none) rfl (fun v => notSet_folded hn env v) (closureFor_eq fun n hn => absurd rfl (DS.nofree _ hn)) DS.kind DS.locs (wpAny_mono (hi A s₀ s env W mr R hsc F) (fun v s₁ q => wpAny_mono q (fun it s₂ q => ?_) fun _ _ q => q) fun _ _ q => q)
  obtain ⟨Pw, ex, hPw, hX⟩ := q
  rw [clOf_nofree _ _ _ DS.nofree]
  refine wpAny_newObj_type (wpAny_newFunctionEnv DS.nocell (by intro y hy; simp at hy) (fun h₁ hns₁ hsb₁ => ?_) DS.kind)
  dsimp only at hns₁ hsb₁ ⊢
  have hnew : (s₂.heap.push { cls := .type "dict", dict := none, data := .dict #[] }).DictOf (strKind G.prog G.w) s₂.heap.objs.size [] := Heap.DictOf.new s₂.heap
  generalize hD : s₂.heap.objs.size = Da at hns₁ hsb₁ hnew ⊢
  generalize hH2 : s₂.heap.push { cls := .type "dict", dict := none, data := .dict #[] } = H2 at hns₁ hsb₁ hnew ⊢
  generalize hC : H2.objs.size = C at hns₁ hsb₁ ⊢
  have hCD : C = Da + 1 := by rw [← hC, ← hH2, Heap.size_push, hD]
  have hDC : Da ≠ C := by rw [hCD]; exact Nat.ne_of_lt (Nat.lt_succ_self _)
  generalize hs4 : ({ s₂ with heap := h₁, toks := s₂.toks + ([] : List (Str × Value)).length } : Shared) = s₄
  have hh : s₄.heap = h₁ := by rw [← hs4]
  have s2D : s₂.heap.get? Da = none := by rw [← hD]; exact get_size _
  have s2C : s₂.heap.get? C = none := by
    cases q : s₂.heap.get? C with
    | none => rfl
    | some o => have := Heap.lt_size q; rw [hD, hCD] at this; exact absurd this (Nat.not_lt.mpr (Nat.le_succ Da))
  have x4 : Ext s₂ s₄ := by
    rw [← hs4]
    refine ⟨fun b o e => ?_, fun _ _ e => e, id, rfl⟩
    have hb : b ≠ C := ne_of_get e s2C
    exact hsb₁.extBut b o hb (Heap.get?_push_of_some _ (hH2 ▸ Heap.get?_push_of_some _ e))
  have hacc : s₄.heap.DictOf (strKind G.prog G.w) Da [] := by
    rw [hh]
    exact hnew.at fun o e => hsb₁.extBut Da _ hDC (Heap.get?_push_of_some _ e)
  have xs4 := ex.trans x4
  have fr : ∀ b, s₂.heap.get? b = none → s.heap.get? b = none := fun b e => ex.back e
  have hsm : (Da == sysModules) = false := by
    obtain ⟨o, _, _, e, _⟩ := (F.base.keeps ex.keep).g
    have := Heap.lt_size e
    rw [hD] at this
    have : Da ≠ sysModules := Nat.ne_of_gt (Nat.lt_of_le_of_lt (by decide) this)
    simpa using this
  obtain ⟨St, It, hst⟩ := hX (fun b => b = Da ∨ b = C) (fun b q => by rcases q with rfl | rfl <;> assumption)
  generalize henv : ({ newEnv scope C env.globals [] env.qual none .none (some env) builtinsNs with scope := relabel scope env } : Env) = cenv
  have hcl : cenv.locals = C := by rw [← henv]; rfl
  have hcc : cenv.cells = [] := by rw [← henv]; rfl
  have noc : ∀ {y : Str} {c : Addr}, cenv.cells.lookup y = some c → False := fun e => by rw [hcc] at e; cases e
  have hcs : cenv.scope = scope := by rw [← henv]; exact relabel_nofree DS.nofree
  have hck : ∀ y, cenv.kindOf y = scope.names.lookup y := fun y => by unfold Env.kindOf; rw [hcs]
  let Wc : Addr → Prop := fun a => (W a ∨ Pw a) ∨ (a = Da ∨ a = C)
  have F₄ : FnFrame G s (fun _ => False) cenv Wc none none [] s₄ := by
    refine ⟨{ base₀ := F.base, ext := xs4, bare := xs4.bare F.bare, fk := ?_, gl := ?_, bl := ?_, low := ?_, wl := ?_, wc := ?_, hi := ?_, ns := ?_, cl := ?_, kd := ?_, apart := ?_, mu := fun _ e => nomatch e }, ?_, ?_, fun _ q => q.elim, fun _ q => q.elim, fun _ => rfl⟩
    · rw [hcs]; exact DS.kind
    · rw [← henv]; exact F.gl
    · rw [← henv]; exact F.bl
    · rintro a ((q | q) | rfl | rfl)
      · obtain ⟨o, e⟩ := F.low a q; exact ⟨o, xs4.keep a o e⟩
      · obtain ⟨o, e⟩ := (hPw a q).2; exact ⟨o, x4.keep a o e⟩
      · obtain ⟨o, e, _⟩ := Heap.dictOf_iff.mp hacc; exact ⟨o, e⟩
      · obtain ⟨o, _, _, ho, _⟩ := hns₁; exact ⟨o, by rw [hh]; exact ho⟩
    · rw [hcl]; exact .inr (.inr rfl)
    · intro y c e; exact (noc e).elim
    · rw [hcl]; exact fr _ s2C
    · exact ⟨_, by rw [hcl, hh]; exact hns₁, fun y d e ky => by simp at e⟩
    · intro y c e; exact (noc e).elim
    · intro y d e; simp at e
    · intro y z c e e'; exact (noc e).elim
    · intro y c e; exact (noc e).elim
    · intro y e
      rw [hck] at e
      exact absurd e (no_cell _ DS.nocell)
  have h0D : s.heap.get? Da = none := fr _ s2D
  have h0C : s.heap.get? C = none := fr _ s2C
  have PwC : ¬ Pw C := fun q => by obtain ⟨o, e⟩ := (hPw C q).2; rw [s2C] at e; cases e
  have PwD : ¬ Pw Da := fun q => by obtain ⟨o, e⟩ := (hPw Da q).2; rw [s2D] at e; cases e
  have own5 : ∀ b, Own cenv none b → b = C := fun b q => by
    rcases q with q | ⟨y, q⟩ | q
    · exact q.trans hcl
    · exact (noc q).elim
    · cases q
  have hst4 : St 0 s₄ := It.frame 0 s₂ s₄ hst fun b o _ e => x4.keep b o e
  have stX : ∀ {j s₁ s₂}, St j s₁ → Ext s₁ s₂ → St j s₂ := fun {j s₁ s₂} st e => It.frame j s₁ s₂ st fun b o _ q => e.keep b o q
  have loop : codeAny G.M A (.compLoop (.DictComp kx vx [⟨t, iter, [], 0⟩] scope pos) 0 it (.ref Da) cenv) (compPost G.M A No none (Post G W (.dct D) s) (.ref Da) C) s₄ := by
    refine compLoop_dict (DictAt G (fun d x i => ∃ σa, Takes scope none t d [] σa ∧ SemE G k scope none σa kx (.str x) ∧ SemE G k scope none σa vx (.int i)) s cenv Wc St ds D Da) ?_ ds.length ⟨0, [], [], rfl, Nat.zero_le _, Nat.le_refl _, h, F₄, hst4, hacc, .nil⟩
    rintro n s' ⟨i, Di, kvs, hn, hi, hkl, hrel, F', st, ho, fp⟩
    rcases opt_or ds[i]? with hd | ⟨d, hd⟩
    · have hi' := drop_end hi hd
      rw [hi', List.drop_length] at hrel
      rw [hrel.nil_inv] at fp
      refine It.done s' _ _ (hi' ▸ st) F'.toFrame.base F'.bare F'.low fun s'' mv' => ?_
      obtain ⟨mm, hm, _⟩ := F'.ns
      rw [hcl] at hm
      refine ⟨mm, hm.at' fun o e => mv'.keep _ o PwC e, fun h' hs => ⟨⟨fun b o e => hs.extBut b o (ne_of_get e h0C) (mv'.keep b o (fun q => by rw [(hPw b q).1] at e; cases e) (F'.ext.keep b o e)), fun g y e => mv'.gens g y id (F'.ext.gens g y e), fun q => mv'.bare (F'.ext.bare q), mv'.os.trans F'.ext.os⟩, ?_⟩⟩
      refine .dct (fun q => ?_) ⟨hsm, kvs, (ho.at fun o e => hs.extBut Da o hDC (mv'.keep _ o PwD e)), fp⟩
      obtain ⟨o, e⟩ := F.low Da q
      rw [h0D] at e; cases e
    · obtain ⟨hlt, hdrop⟩ := drop_at hd
      rw [hdrop] at hrel
      refine It.item i d s' _ _ hd st F'.toFrame.base F'.bare F'.low fun v s'' mv' st'' rv => ?_
      refine It.own _ _ _ _ _ _ st'' ?_
      have F'' : FnFrame G s (fun _ => False) cenv Wc none none [] s'' := F'.of (F'.toFrame.mvd mv' (fun b q => .inl (.inr q)) (fun b q => (hPw b q).1) (fun _ q => q.elim) (fun a q => q) F'.toFrame.feet (fun a q => by
        by_cases p : Pw a
        · exact It.alive _ _ st'' a p
        · obtain ⟨o, e⟩ := F'.low a q; exact ⟨o, mv'.keep a o p e⟩) (by rw [hcl]; exact PwC) (fun y c e => (noc e).elim) (fun r e => nomatch e))
      have ho'' := ho.at fun o e => mv'.keep _ o PwD e
      obtain ⟨x, iv, ht, hr⟩ := hrel.cons_inv
      obtain ⟨σa, htk, hk, hv⟩ := ht
      refine htk.run R hcs F'' rv fun s₅ F₅ e₅ => ?_
      have keep5 : ∀ b o, b ≠ C → s''.heap.get? b = some o → s₅.heap.get? b = some o := fun b o hb e => e₅.keep b o (fun q => hb (own5 b q)) e
      have st5 : St (i + 1) s₅ := It.frame _ s'' s₅ st'' (fun b o hb e => keep5 b o (fun q => by
        rcases hb with hb | hb
        · exact hb (.inr (.inr q))
        · exact PwC (q ▸ hb)) e)
      have ho5 := ho''.at fun o e => keep5 _ o hDC e
      refine wpAny_mono (hk A s s₅ cenv Wc none R hcs F₅.toFrame) (fun kv s₆ q => ?_) fun _ _ q => q
      obtain ⟨x6, r6⟩ := q
      obtain ⟨tk, rfl⟩ := rep_str r6
      refine wpAny_mono (hv A s s₆ cenv Wc none R hcs (F₅.toFrame.more x6)) (fun vv s₇ q => ?_) fun _ _ q => q
      obtain ⟨x7, r7⟩ := q
      obtain ⟨tv, rfl⟩ := rep_int r7
      have x67 := x6.trans x7
      have ho7 := ho5.at fun o e => x67.keep _ o e
      refine wpAny_dictSet_pairs (k := x) (strKind_is _ _ _ _) ho7 (fun h' hd' hs => ?_) (Nat.le_trans (Nat.le_trans hkl (Nat.le_trans hi hsz)) sizeLine_big)
      have md : Mvd (fun b => b = Da) (fun _ => False) s₇ { s₇ with heap := h', toks := s₇.toks + 1 } := mvd_same (tk := s₇.toks + 1) hs
      have F₇ := F₅.more x67
      have F₈ : Frame G s cenv Wc none none σa { s₇ with heap := h', toks := s₇.toks + 1 } := F₇.toFrame.mvd md (fun b q => .inr (.inl q)) (fun b q => q ▸ h0D) (fun _ q => q.elim) (fun a q => q) F₇.toFrame.feet (fun a q => by
          by_cases p : a = Da
          · rw [p]; obtain ⟨o, e, _⟩ := Heap.dictOf_iff.mp hd'; exact ⟨o, e⟩
          · obtain ⟨o, e⟩ := F₇.low a q; exact ⟨o, md.keep a o p e⟩) (by rw [hcl]; exact Ne.symm hDC) (fun y c e => (noc e).elim) (fun r e => nomatch e)
      refine ⟨ds.length - (i + 1), by (first | lia | omega), i + 1, _, _, rfl, hlt, ?_, hr, F₇.of (F₈.forget fun y e hy => by simp at hy), ?_, hd', PyProof.V.FlatPairs.stored same_str fp x (fun _ => .int ..)⟩
      · have := stored_length_le kvs x (.int iv tv); (first | lia | omega)
      · refine It.frame _ s₇ _ (stX st5 x67) fun b o hb e => md.keep b o (fun q => ?_) e
        rcases hb with hb | hb
        · exact hb (.inr (.inl q))
        · exact PwD (q ▸ hb)
  exact codeAny_compStart_dict loop (It.self 0 _ _ _ hst4 loop)
end
end Mine
end

noncomputable section
open PySem PyProof.Rows
set_option Elab.async false
set_option linter.all false
set_option autoImplicit false
namespace Mine

/- what a generator's turn does: its private places P may grow -/
structure Since (P P' : Addr → Prop) (s s' : Shared) : Prop where
  keep : ∀ b o, ¬ P b → s.heap.get? b = some o → s'.heap.get? b = some o
  gens : ∀ (i : Nat) (x : GenState), s.gens[i]? = some x → s'.gens[i]? = some x
  bare : AllBare s.gens → AllBare s'.gens
  os : s'.os = s.os
  new : ∀ b, P' b → P b ∨ s.heap.get? b = none
  alive : ∀ b, P' b → ∃ o, s'.heap.get? b = some o

/- an iterator whose private places may grow; only number g of the generators is its own -/
structure IterD (G : Glo) (A : Around) (s₀ : Shared) (W : Addr → Prop) (g : Nat) (it : Value) (ds : List PV) (St : (Addr → Prop) → Nat → Shared → Prop) : Prop where
  frame : ∀ P i s s', St P i s → (∀ b o, ¬ W b → s.heap.get? b = some o → s'.heap.get? b = some o) → (∀ (x : GenState), s.gens[g]? = some x → s'.gens[g]? = some x) → St P i s'
  item : ∀ P i d s (Q : Option Value → Shared → Prop) (E : Value → Shared → Prop), ds[i]? = some d → St P i s → Ext s₀ s → AllBare s.gens → Low (fun a => W a ∨ P a) s →
    (∀ v s' P', Mvd P (fun x => x = g) s s' → (∀ b, P' b → P b ∨ s.heap.get? b = none) → (∀ b, P' b → ∃ o, s'.heap.get? b = some o) → St P' (i + 1) s' → GRep G (fun a => W a ∨ P' a) s'.heap v d → Q (some v) s') → wpAny G.M A (pyNext it) Q E s
  done : ∀ P s (Q : Option Value → Shared → Prop) (E : Value → Shared → Prop), St P ds.length s → Ext s₀ s → AllBare s.gens → Low (fun a => W a ∨ P a) s → (∀ s', Mvd P (fun x => x = g) s s' → Q none s') → wpAny G.M A (pyNext it) Q E s
  own : ∀ P i s target v (Q : Unit → Shared → Prop) (E : Value → Shared → Prop), St P i s → Q () s → wpAny G.M A (letOwnedTupleGo target it v) Q E s

noncomputable def SemD (G : Glo) (k : Nat) (sc : Scope) (mv : Option Str) (σ : Sig) (e : Expr) (ds : List PV) : Prop :=
  ∀ (A : Around) (s₀ s : Shared) (env : Env) (W : Addr → Prop) (mr : Option Addr), Room k A → env.scope = sc → Frame G s₀ env W mv mr σ s →
    wpAny G.M A (eval e env) (fun x s₁ => wpAny G.M A (pyIter x) (fun it s₂ => ∃ (P : Addr → Prop) (g : Nat) (St : (Addr → Prop) → Nat → Shared → Prop), Ext s s₂ ∧ (∀ b, P b → s.heap.get? b = none ∧ ∃ o, s₂.heap.get? b = some o) ∧ s.gens[g]? = none ∧
      IterD G A s₀ W g it ds St ∧ St P 0 s₂) No s₁) No s

section
variable {G : Glo} {s₀ : Shared} {env : Env} {W W' : Addr → Prop} {mv : Option Str} {mr : Option Addr} {σ : Sig} {s s' : Shared}

/- a step on private places, and the excluded ones may grow -/
theorem Frame.mvdP {Pw : Addr → Prop} {Pg : Nat → Prop} (F : Frame G s₀ env W' mv mr σ s) (m : Mvd Pw Pg s s') (hsub : ∀ b, Pw b → W' b) (h0 : ∀ b, Pw b → s₀.heap.get? b = none) (hg : ∀ (g : Nat), Pg g → s₀.gens[g]? = none)
    (hW : ∀ a o, s.heap.get? a = some o → W a → W' a) (ft : Feet env mr W) (hlow : ∀ a, W a → ∃ o, s'.heap.get? a = some o) (hl : ¬ Pw env.locals) (hc : ∀ x c, env.cells.lookup x = some c → ¬ Pw c) (hm : ∀ r, mr = some r → ¬ Pw r) : Frame G s₀ env W mv mr σ s' := by
  have up : ∀ b o, ¬ (W b ∨ W' b) → s.heap.get? b = some o → s'.heap.get? b = some o := fun b o hb e => m.keep b o (fun q => hb (.inr (hsub b q))) e
  have h1' : ∀ a o, s.heap.get? a = some o → (W a ∨ W' a) → W' a := fun a o e q => q.elim (hW a o e) id
  have h2' : ∀ a o, s'.heap.get? a = some o → W a → (W a ∨ W' a) := fun a o _ q => .inl q
  have V : ∀ {x v d}, Val G W' mv mr s.heap x v d → Val G W mv mr s'.heap x v d := by
    intro y v d V
    rcases V with ⟨a, q⟩ | ⟨a, r', vs, ds, n, h1, h2, h3, h4, h5⟩
    · exact .inl ⟨a, ((q.widen h1').keep up).widen h2'⟩
    · exact .inr ⟨a, r', vs, ds, n, h1, h2, h3, m.keep _ _ (hm r' h1) h4, ((h5.widen h1').keep up).widen h2'⟩
  refine { base₀ := F.base₀, ext := ⟨fun b o e => m.keep b o (fun q => by rw [h0 b q] at e; cases e) (F.ext.keep b o e), fun i x e => m.gens i x (fun q => by rw [hg i q] at e; cases e) (F.ext.gens i x e), fun h => m.bare (F.ext.bare h), m.os.trans F.ext.os⟩, bare := m.bare F.bare, fk := F.fk, gl := F.gl, bl := F.bl, low := hlow, wl := ft.wl, wc := ft.wc, hi := F.hi, ns := ?_, cl := ?_, kd := F.kd, apart := F.apart, mu := ?_ }
  · obtain ⟨mm, hm', h⟩ := F.ns
    refine ⟨mm, hm'.at' fun o e => m.keep _ o hl e, fun y d e k => ?_⟩
    obtain ⟨v, h1, h2⟩ := h y d e k
    exact ⟨v, h1, V h2⟩
  · intro y c e
    obtain ⟨ov, ⟨o, ho, hd⟩, h2⟩ := F.cl y c e
    refine ⟨ov, ⟨o, m.keep _ _ (hc y c e) ho, hd⟩, fun d e k => ?_⟩
    obtain ⟨v, h3, h4⟩ := h2 d e k
    exact ⟨v, h3, V h4⟩
  · intro q e
    obtain ⟨h1, h2, vs, n, h3⟩ := F.mu q e
    exact ⟨ft.wm q e, h2, vs, n, m.keep _ _ (hm q e) h3⟩
end

section
variable {G : Glo} {k : Nat} {sc : Scope} {mv mv' : Option Str} {σ σ' : Sig}

inductive LoopAt (G : Glo) (step : PV → Sig → Sig → PFlow → Prop) (s₀ : Shared) (W₀ : Addr → Prop) (env : Env) (W : Addr → Prop) (mv : Option Str) (mr : Option Addr) (St : (Addr → Prop) → Nat → Shared → Prop) (ds : List PV) (σ' : Sig) (fl : PFlow) (s : Shared) (n : Nat) (s' : Shared) : Prop
  | mk (i : Nat) (σi : Sig) (P : Addr → Prop) : n = ds.length - i → i ≤ ds.length → ForRel step (ds.drop i) σi σ' fl → FnFrame G s₀ W₀ env (fun a => W a ∨ P a) mv mr σi s' → St P i s' → ExtS (Own env mr) s s' → (∀ b, P b → s.heap.get? b = none) → LoopAt G step s₀ W₀ env W mv mr St ds σ' fl s n s'
inductive TurnAt (G : Glo) (s₀ : Shared) (W₀ : Addr → Prop) (env : Env) (W P : Addr → Prop) (mv : Option Str) (mr : Option Addr) (St : (Addr → Prop) → Nat → Shared → Prop) (i : Nat) (σ₁ : Sig) (fl : PFlow) (s : Shared) (f : Flow) (s' : Shared) : Prop
  | mk : FnFrame G s₀ W₀ env (fun a => W a ∨ P a) mv mr σ₁ s' → St P i s' → ExtS (Own env mr) s s' → FlowOk G W₀ s' f fl → TurnAt G s₀ W₀ env W P mv mr St i σ₁ fl s f s'

theorem for_loopD {A : Around} {s₀ : Shared} {W₀ : Addr → Prop} {s s₂ : Shared} {env : Env} {W : Addr → Prop} {mr : Option Addr} {Pw : Addr → Prop} {g : Nat} {St : (Addr → Prop) → Nat → Shared → Prop} {it : Value} {t : Expr} {body : List Stmt} {ds : List PV} {fl : PFlow} (R : Room k A) (hsc : env.scope = sc)
    (F : FnFrame G s₀ W₀ env W mv mr σ s) (x : Ext s s₂) (hPw : ∀ b, Pw b → s.heap.get? b = none ∧ ∃ o, s₂.heap.get? b = some o) (hPg : s.gens[g]? = none) (It : IterD G A s₀ W g it ds St) (hst : St Pw 0 s₂)
    (h : ForRel (Turn G k sc mv t body) ds σ σ' fl) :
    codeAny G.M A (.forLoop t it body [] env) (fun r s' => ∃ f, r = .ok f ∧ EndS G s₀ W₀ env W mv mr s mv σ' fl f s') s₂ := by
  have frh : ∀ b, s.heap.get? b = none → s₀.heap.get? b = none := fun b q => F.ext.back q
  have hg0 : s₀.gens[g]? = none := F.ext.backG hPg
  have ft := F.toFrame.feet
  have F₂ : FnFrame G s₀ W₀ env (fun a => W a ∨ Pw a) mv mr σ s₂ := ⟨F.toFrame.freshP x (fun r q => (hPw r q).1) (fun r q => (hPw r q).2), F.hc, F.hcell, fun a q => .inl (F.sup a q), F.w0, F.mn⟩
  let Keep (s' : Shared) : Prop := ExtS (Own env mr) s s'
  refine codeAny_forLoop_any (LoopAt G (Turn G k sc mv t body) s₀ W₀ env W mv mr St ds σ' fl s) ?_ ds.length
    ⟨0, σ, Pw, rfl, Nat.zero_le _, h, F₂, hst, x.toS _, fun b q => (hPw b q).1⟩
  rintro n s' ⟨i, σi, P, hn, hi, hrel, F', st, kp, hP⟩
  have dis : ∀ a, W a → ¬ P a := fun a ha q => by obtain ⟨o, e⟩ := F.low a ha; rw [hP a q] at e; cases e
  have mvKeep : ∀ {s' s''}, Keep s' → Mvd P (fun x => x = g) s' s'' → Keep s'' := fun {s' s''} kp m => ⟨fun b o hb e => m.keep b o (fun q => by rw [hP b q] at e; cases e) (kp.keep b o hb e), fun g' y e => m.gens g' y (fun q => by subst q; rw [hPg] at e; cases e) (kp.gens g' y e), fun q => m.bare (kp.bare q), m.os.trans kp.os⟩
  rcases opt_or ds[i]? with hd | ⟨d, hd⟩
  · have hi' := drop_end hi hd
    rw [hi', List.drop_length] at hrel
    obtain ⟨e1, e2⟩ := hrel.nil_inv
    refine It.done P s' _ _ (hi' ▸ st) F'.ext F'.bare F'.low fun s'' m => ?_
    have F'' : Frame G s₀ env W mv mr σi s'' := F'.toFrame.mvd m (fun b q => .inr q) (fun b q => frh b (hP b q)) (fun g' q => q ▸ hg0) (fun a q => .inl q) ft (fun a q => by obtain ⟨o, e⟩ := F'.low a (.inl q); exact ⟨o, m.keep a o (dis a q) e⟩) (dis _ ft.wl) (fun y c e => dis _ (ft.wc y c e)) (fun r e => dis _ (ft.wm r e))
    exact wpAny_execs_nil ⟨.next, rfl, W, mr, F.of (e1 ▸ F''), .inl ⟨rfl, rfl, rfl⟩, mvKeep kp m, by rw [e2]; trivial⟩
  · obtain ⟨hlt, hdrop⟩ := drop_at hd
    rw [hdrop] at hrel
    refine It.item P i d s' _ _ hd st F'.ext F'.bare F'.low fun v s'' P' m hnew hal st'' rv => ?_
    have hP' : ∀ b, P' b → s.heap.get? b = none := fun b q => by
      rcases hnew b q with q | q
      · exact hP b q
      · cases e : s.heap.get? b with
        | none => rfl
        | some o =>
          by_cases hb : Own env mr b
          · have : W b := by
              rcases hb with hb | ⟨y, hb⟩ | hb
              · exact hb ▸ ft.wl
              · exact ft.wc y b hb
              · exact ft.wm b hb
            obtain ⟨o', e'⟩ := F'.low b (.inl this); rw [q] at e'; cases e'
          · have := kp.keep b o hb e; rw [q] at this; cases this
    have dis' : ∀ a, W a → ¬ P' a := fun a ha q => by obtain ⟨o, e⟩ := F.low a ha; rw [hP' a q] at e; cases e
    refine It.own P' _ _ _ _ _ _ st'' ?_
    have F'' : FnFrame G s₀ W₀ env (fun a => W a ∨ P' a) mv mr σi s'' := by
      have := F'.toFrame.mvdP (W := fun a => W a ∨ P' a) m (fun b q => .inr q) (fun b q => frh b (hP b q)) (fun g' q => q ▸ hg0) (fun a o e q => by
        rcases q with q | q
        · exact .inl q
        · rcases hnew a q with q | q
          · exact .inr q
          · rw [q] at e; cases e) ⟨.inl ft.wl, fun y c e => .inl (ft.wc y c e), fun r e => .inl (ft.wm r e)⟩ (fun a q => by
        rcases q with q | q
        · obtain ⟨o, e⟩ := F'.low a (.inl q); exact ⟨o, m.keep a o (dis a q) e⟩
        · exact hal a q) (dis _ ft.wl) (fun y c e => dis _ (ft.wc y c e)) (fun r e => dis _ (ft.wm r e))
      exact ⟨this, F.hc, F.hcell, fun a q => .inl (F.sup a q), F.w0, F.mn⟩
    have kp'' := mvKeep kp m
    have ownW : ∀ b, Own env mr b → W b := fun b q => by
      rcases q with q | ⟨y, q⟩ | q
      · exact q ▸ ft.wl
      · exact ft.wc y b q
      · exact ft.wm b q
    have stS : ∀ {j s₁ s₂}, St P' j s₁ → ExtS (Own env mr) s₁ s₂ → St P' j s₂ := fun {j s₁ s₂} st e => It.frame P' j s₁ s₂ st (fun b o hb q => e.keep b o (fun w => hb (ownW b w)) q) fun y q => e.gens g y q
    have body : ∀ {σ₁ fl'}, Turn G k sc mv t body d σi σ₁ fl' → wpAny G.M A (assign t env v) (fun _ s₂ => wpAny G.M A (execs body env) (TurnAt G s₀ W₀ env W P' mv mr St (i + 1) σ₁ fl' s) No s₂) No s'' := by
      rintro σ₁ fl' ⟨σa, ht, hb⟩
      refine ht.run R hsc F'' rv fun s₁ F₁ e₁ => wpAny_mono (hb A s₀ W₀ s₁ env _ mr R hsc F₁) (fun f s₃ q => ?_) fun _ _ q => q
      obtain ⟨W₃, mr₃, F₃, stp, e₃, fo⟩ := q
      rcases stp with ⟨_, rfl, rfl⟩ | ⟨h1, h2⟩
      · exact ⟨F₃, stS (stS st'' e₁) e₃, kp''.trans (e₁.trans e₃), fo⟩
      · exact absurd h1 h2
    refine hrel.cons_inv (fun σ₁ ht hr => ?_) fun r e ht => ?_
    · refine wpAny_mono (body ht) (fun _ s₁ q => wpAny_mono q (fun f s₃ q => ?_) fun _ _ q => q.elim) fun _ _ q => q.elim
      obtain ⟨F₃, st₃, kp₃, fo⟩ := q
      cases f with
      | next => exact ⟨ds.length - (i + 1), by (first | lia | omega), i + 1, _, P', rfl, hlt, hr, F₃, st₃, kp₃, hP'⟩
      | _ => exact fo.elim
    · refine wpAny_mono (body ht) (fun _ s₁ q => wpAny_mono q (fun f s₃ q => ?_) fun _ _ q => q.elim) fun _ _ q => q.elim
      obtain ⟨F₃, st₃, kp₃, fo⟩ := q
      cases f with
      | ret v => exact ⟨_, rfl, W, mr, F₃.shrink (fun a q => .inl q) ft F.sup, .inl ⟨rfl, rfl, rfl⟩, kp₃, by rw [e]; exact fo⟩
      | _ => exact fo.elim

theorem semS_forD {t iter : Expr} {body : List Stmt} {p : Pos} {ds : List PV} {fl : PFlow} (hi : SemD G k sc mv σ iter ds) (hn : notSet iter = true) (h : ForRel (Turn G k sc mv t body) ds σ σ' fl) : SemS G k sc mv σ (.For t iter body [] p) mv σ' fl := fun A s₀ W₀ s env W mr R hsc F =>
  wpAny_For (wpAny_mono (hi A s₀ s env W mr R hsc F.toFrame) (fun v s₁ q => wpAny_mono q (fun it s₂ q => by
    obtain ⟨Pw, g, St, x, h1, h2, It, st⟩ := q
    refine codeAny_mono (for_loopD R hsc F x h1 h2 It st h) fun r s' q => ?_
    obtain ⟨f, rfl, q⟩ := q
    exact q) fun _ _ x => x) fun _ _ x => x) (fun x => notSet_folded hn env x)

theorem SemI.toD {e : Expr} {ds : List PV} (h : SemI G k sc mv σ e ds) : SemD G k sc mv σ e ds := fun A s₀ s env W mr R hsc F =>
  wpAny_mono (h A s₀ s env W mr R hsc F) (fun v s₁ q => wpAny_mono q (fun it s₂ q => by
    obtain ⟨Pw, x, h1, hX⟩ := q
    obtain ⟨St, It, st⟩ := hX (fun _ => False) (fun _ h => h.elim)
    have dis : ∀ b, Pw b → ¬ W b := fun b p q => by obtain ⟨o, e⟩ := F.low b q; rw [(h1 b p).1] at e; cases e
    refine ⟨Pw, s.gens.size, fun P i s' => P = Pw ∧ St i s', x, h1, Array.getElem?_eq_none (Nat.le_refl _), ⟨?_, ?_, ?_, ?_⟩, rfl, st⟩
    · rintro P i a b ⟨hP, h⟩ hk _
      exact ⟨hP, It.frame i a b h fun c o hc e => hk c o (fun w => hc.elim (fun n => n (.inl (.inl w))) fun p => dis c p w) e⟩
    · rintro P i d a Q E hd ⟨hP, h⟩ ex hb lo hQ
      rw [hP] at lo hQ
      refine It.item i d a Q E hd h (F.base₀.keeps ex.keep) hb (fun c q => lo c (q.elim id False.elim)) fun u b m h' r => hQ u b Pw ⟨m.keep, fun g y n => m.gens g y id, m.bare, m.os⟩ (fun c q => .inl q) (fun c q => It.alive _ _ h' c q) ⟨rfl, h'⟩ (r.widen fun c o _ q => .inl q)
    · rintro P a Q E ⟨hP, h⟩ ex hb lo hQ
      rw [hP] at lo hQ
      exact It.done a Q E h (F.base₀.keeps ex.keep) hb (fun c q => lo c (q.elim id False.elim)) fun b m => hQ b ⟨m.keep, fun g y n => m.gens g y id, m.bare, m.os⟩
    · rintro P i a t u Q E ⟨_, h⟩ hQ
      exact It.own i a t u Q E h hQ) fun _ _ x => x) fun _ _ x => x
theorem semS_for {t iter : Expr} {body : List Stmt} {p : Pos} {ds : List PV} {fl : PFlow} (hi : SemI G k sc mv σ iter ds) (hn : notSet iter = true) (h : ForRel (Turn G k sc mv t body) ds σ σ' fl) : SemS G k sc mv σ (.For t iter body [] p) mv σ' fl := semS_forD hi.toD hn h
end
end Mine
end

noncomputable section
open PySem PyProof.Rows
open PySem.W.X (SegX)
set_option Elab.async false
set_option linter.all false
set_option autoImplicit false
namespace Mine

section
variable {M : Model} {A : Around} {c : Code} {fs : List PySem.Frame} {s : Shared} {P : End → Shared → Prop} {env : Env} {K : Flow → Sem Fin} {H : Value → Sem Fin} {gd : Bool → Bool} {lv : List Value → List Value}

theorem x_wrap {α : Type} {m : Sem α} {K : α → Sem Fin} (h : wpAny M (A.over c fs) m (fun a s' => SegX M A c (K a) fs s' P) (fun x s' => SegX M A c (H x) fs s' P) s) : SegX M A c (m.wrap K H gd lv) fs s P := by
  rintro Γ p rfl hΓ
  obtain ⟨e, s', hr, hq⟩ := runs_wrap_of_wp (Φ := fun e s' => e.quiet = true ∧ P e s') K H gd lv m (h (Γ.over fs) p (hΓ.over fs)) (fun a p' s' h' => h' Γ p' rfl hΓ) (fun x p' s' h' => h' Γ p' rfl hΓ)
  exact ⟨e, s', hr, hq⟩
theorem x_at {p' : Pos} {k : Unit → Sem Fin} (h : SegX M A c (k ()) fs s P) : SegX M A c (.at p' k) fs s P :=
  x_wrap (m := standAt p') (K := k) (H := .raise) (gd := id) (lv := id) (wpAny_standAt h)
theorem x_point {l : List Value} {k : Unit → Sem Fin} (h : SegX M A c (k ()) fs s P) : SegX M A c (.point l k) fs s P :=
  x_wrap (m := point) (K := k) (H := .raise) (gd := id) (lv := fun _ => l) (wpAny_point h)
theorem x_call {c' : Code} {h : Option Value} {g : Bool} {l : List Value} {k : Result → Sem Fin} (hc : ∀ p, SegX M A c' (M.den c') (.ret k h g l c p [] :: fs) s P) : SegX M A c (.call c' h g l k) fs s P := by
  rintro Γ p rfl hΓ
  obtain ⟨e, s', hr, he⟩ := hc p (Γ.goto c') p rfl (hΓ.goto c')
  exact ⟨e, s', runs_call_seg hr, he⟩
theorem x_leaf {k : Result → Sem Fin} {h : Option Value} {g : Bool} {l : List Value} {c₁ : Code} {p₁ : Pos} {kp} (r : Result) (hk : SegX M A c₁ (k r) fs s P) : SegX M A c (leafOf r) (.ret k h g l c₁ p₁ kp :: fs) s P := by
  rintro Γ p rfl hΓ
  obtain ⟨e, s', hr, he⟩ := hk (Γ.goto c₁) p₁ rfl (hΓ.goto c₁)
  exact ⟨e, s', Runs.pop r hr, he⟩
theorem x_again {c' : Code} (hq : c'.quiet = true) (hc : SegX M A c' (M.den c') fs s P) : SegX M A c (.pure (.again c')) fs s P := by
  rintro Γ p rfl hΓ
  obtain ⟨e, s', hr, he⟩ := hc (Γ.goto c') p rfl (hΓ.goto c')
  exact ⟨e, s', Runs.head (c₁ := c') (fun _ _ x => .again hq x) hr, he⟩
theorem x_end (r : Result) (h : P (.ret r) s) : SegX M A c (leafOf r) [] s P := by
  rintro Γ p rfl _
  exact ⟨.ret r, s, Runs.leaf r, rfl, h⟩
theorem x_yield {v : Value} {g : Bool} {l : List Value} {k : Resume → Sem Fin} (hfs : splitAtGen fs = none) (hg : g = false) (hfg : fs.any Frame.guarded = false)
    (h : ∀ p, P (.susp v g l k c p fs) s) : SegX M A c (.yield v g l k) fs s P := by
  rintro Γ p rfl _
  exact ⟨_, s, Runs.yield' fs hfs, by simp [End.quiet, hg, hfg], h p⟩

theorem x_execs_nil (h : SegX M A c (K .next) fs s P) : SegX M A c ((execs [] env).wrap K H gd lv) fs s P := h
theorem x_execs_cons {st : Stmt} {rest : List Stmt}
    (h : SegX M A c ((exec st env).wrap (fun f => match f with | .next => (execs rest env).wrap K H gd lv | f => K f) H gd lv) fs s P) :
    SegX M A c ((execs (st :: rest) env).wrap K H gd lv) fs s P := by rw [execs_cons_wrap]; exact h

theorem x_stmt {st : Stmt} (h : wpAny M (A.over c fs) (exec st env) (fun f s' => SegX M A c (K f) fs s' P) No s) : SegX M A c ((exec st env).wrap K H gd lv) fs s P :=
  x_wrap (wpAny_mono h (fun _ _ q => q) fun _ _ q => q.elim)

theorem x_If {test : Expr} {body orelse : List Stmt} {pos : Pos} (h : wpAny M (A.over c fs) (isTrue test env (eval test env)) (fun b s' => SegX M A c ((execs (if b = true then body else orelse) env).wrap K H gd lv) fs s' P) No s) :
    SegX M A c ((exec (.If test body orelse pos) env).wrap K H gd lv) fs s P := by
  rw [exec_If]
  show SegX M A c (.at pos fun _ => ((isTrue test env (eval test env)) >>= fun b => if b = true then execs body env else execs orelse env).wrap K H gd lv) fs s P
  refine x_at ?_
  rw [Sem.bind_eq_wrap', Sem.wrap_wrap]
  refine x_wrap (wpAny_mono h (fun b s' h' => ?_) fun _ _ x => x.elim)
  cases b <;> exact h'

theorem x_Yield {e : Expr} {ypos pos : Pos} (hfs : splitAtGen fs = none) (hgd : gd false = false) (hfg : fs.any Frame.guarded = false)
    (h : wpAny M (A.over c fs) (eval e env) (fun v s' => ∀ (l : List Value) (k : Resume → Sem Fin) (p : Pos), (∀ s'' Q, SegX M A c (K .next) fs s'' Q → SegX M A c (k (.send .none)) fs s'' Q) → P (.susp v (gd false) l k c p fs) s') No s)
    (hco : env.scope.isCoroutine = false) (hi : interactive env = false) :
    SegX M A c ((exec (.Expr (.Yield (some e) ypos) pos) env).wrap K H gd lv) fs s P := by
  rw [exec_Expr env _ pos hi rfl]
  show SegX M A c (.at pos fun _ => ((eval e env >>= fun v => (standAt ypos >>= fun _ => yieldOut env v)) >>= fun x =>
    dropValue (.Yield (some e) ypos) pos x).wrap K H gd lv) fs s P
  have hy : ∀ v, yieldOut env v = yieldValue v := fun v => by simp only [yieldOut, hco, Bool.false_eq_true, if_false]
  simp only [hy]
  refine x_at ?_
  rw [Sem.bind_eq_wrap', Sem.bind_eq_wrap', Sem.wrap_wrap, Sem.wrap_wrap]
  refine x_wrap (wpAny_mono h (fun v s' h' => ?_) fun _ _ x => x.elim)
  exact x_at (x_yield hfs hgd hfg fun p => h' _ _ p fun s'' Q hx => hx)

theorem x_For {target iter : Expr} {body orelse : List Stmt} {pos : Pos} (hs : ∀ x, foldedSetIterable iter env x = pure x)
    (h : wpAny M (A.over c fs) (eval iter env) (fun x s₁ => wpAny M (A.over c fs) (pyIter x) (fun it s₂ => ∀ p, SegX M A (.forLoop target it body orelse env) (M.den (.forLoop target it body orelse env))
      (.ret (fun r => ((match r with | .ok f => (.pure f : Sem Flow) | .error e => .raise e).onRaise fun (x : Value) => do
        if (← field x 1) == Value.none then unsupported "frame.own-activation:exception-without-traceback"
        setFlight x env.frame).wrap K H gd lv) none (gd false) (lv []) c p [] :: fs) s₂ P) No s₁) No s) :
    SegX M A c ((exec (.For target iter body orelse pos) env).wrap K H gd lv) fs s P := by
  rw [exec_For]
  show SegX M A c (.at pos fun _ => (eval iter env >>= fun v => foldedSetIterable iter env v >>= fun x => standAt iter.pos >>= fun _ => holding [x] (pyIter x) >>= fun it => runOwn (.forLoop target it body orelse env) env).wrap K H gd lv) fs s P
  refine x_at ?_
  rw [Sem.bind_eq_wrap', Sem.wrap_wrap]
  refine x_wrap (wpAny_mono h (fun v s₁ h₁ => ?_) fun _ _ x => x.elim)
  rw [hs v, pure_bind]
  refine x_at ?_
  show SegX M A c ((holding [v] (pyIter v) >>= fun it => runOwn (.forLoop target it body orelse env) env).wrap K H gd lv) fs s₁ P
  rw [Sem.bind_eq_wrap', Sem.wrap_wrap]
  refine x_wrap (wpAny_holding (wpAny_mono h₁ (fun it s₂ h₂ => ?_) fun _ _ x => x.elim))
  exact x_call h₂
end

section
variable {prog : Program} {w : World} {A : Around} {fs : List PySem.Frame} {s : Shared} {P : End → Shared → Prop} {env : Env}

theorem x_func {body : List Stmt}
    (h : SegX (model prog w) A (.func body env) ((execs body env).wrap (fun f => .pure (.done (.ret (match f with | .ret v => v | _ => .none))))
      (fun e => (leaving env e).wrap (fun _ => .raise e) .raise id id) id id) fs s P) :
    SegX (model prog w) A (.func body env) ((model prog w).den (.func body env)) fs s P := by
  show SegX _ A _ (.point [] fun _ => ((execs body env).onRaise (leaving env)) >>= _) fs s P
  refine x_point ?_
  rw [Sem.onRaise_eq_wrap, Sem.bind_eq_wrap', Sem.wrap_wrap]
  rw [Sem.wrap_congr (execs body env) _ _ (K' := fun f => .pure (.done (.ret (match f with | .ret v => v | _ => .none))))
    (H' := fun e => (leaving env e).wrap (fun _ => .raise e) .raise id id) (fun f => by cases f <;> rfl)
    (fun e => by rw [Sem.bind_eq_wrap, Sem.wrap_wrap]; rfl)]
  exact h

theorem x_forLoop {target : Expr} {it : Value} {body : List Stmt}
    (h : wpAny (model prog w) (A.over (.forLoop target it body [] env) fs) (pyNext it) (fun r s₁ => match r with
      | none => SegX (model prog w) A (.block [] env) (.pure (.done .next)) fs s₁ P
      | some v => wpAny (model prog w) (A.over (.forLoop target it body [] env) fs) (letOwnedTupleGo target it v) (fun _ s₁ => wpAny (model prog w) (A.over (.forLoop target it body [] env) fs) (assign target env v) (fun _ s₂ =>
          SegX (model prog w) A (.forLoop target it body [] env) ((execs body env).wrap (fun f => match f with
            | .next | .cont => .pure (.again (.forLoop target it body [] env))
            | .brk => .pure (.done .next)
            | .ret v => .pure (.done (.ret v))) (fun e => (do noteFrame e env; theTreesLotGoes e : Sem Unit).wrap (fun _ => .raise e) .raise id id) id id) fs s₂ P) No s₁) No s₁) No s) :
    SegX (model prog w) A (.forLoop target it body [] env) ((model prog w).den (.forLoop target it body [] env)) fs s P := by
  show SegX _ A _ ((forTurn target it body [] env).onRaise (fun x => do noteFrame x env; theTreesLotGoes x)) fs s P
  unfold forTurn
  show SegX _ A _ (.at target.pos fun _ => (((pyNext it).onRaise (fun _ => standAt { target.pos with line := 0 })) >>= fun r => _).onRaise (fun x => do noteFrame x env; theTreesLotGoes x)) fs s P
  refine x_at ?_
  rw [Sem.onRaise_eq_wrap, Sem.bind_eq_wrap', Sem.wrap_wrap]
  refine x_wrap (wpAny_onRaise (wpAny_mono h (fun r s₁ h₁ => ?_) fun _ _ x => x.elim))
  cases r with
  | none => exact x_again rfl h₁
  | some v =>
    simp only
    rw [Sem.bind_eq_wrap', Sem.wrap_wrap]
    refine x_wrap (wpAny_mono h₁ (fun _ s₁ h₁ => ?_) fun _ _ x => x.elim)
    rw [Sem.bind_eq_wrap', Sem.wrap_wrap]
    refine x_wrap (wpAny_mono h₁ (fun _ s₂ h₂ => ?_) fun _ _ x => x.elim)
    rw [Sem.bind_eq_wrap', Sem.wrap_wrap]
    rw [Sem.wrap_congr (execs body env) _ _ (K' := fun f => match f with
            | .next | .cont => .pure (.again (.forLoop target it body [] env))
            | .brk => .pure (.done .next)
            | .ret v => .pure (.done (.ret v))) (H' := (fun e => (do noteFrame e env; theTreesLotGoes e : Sem Unit).wrap (fun _ => .raise e) .raise id id))
        (fun f => by cases f <;> rfl)
        (fun e => by first | exact Sem.bind_eq_wrap _ _ | (show (do noteFrame e env; theTreesLotGoes e : Sem Unit).bind (fun _ => .raise e) = _; rw [Sem.bind_eq_wrap]))]
    exact h₂

/- how a generator wakes: its code, its tree, its frames -/
noncomputable def Wakes1 (gs : GenState) (c₀ : Code) (t₀ : Sem Fin) (fs₀ : List PySem.Frame) : Prop :=
  (gs = .fresh c₀ ∧ t₀ = denote table c₀ ∧ fs₀ = []) ∨ (∃ k₀ l₀ p₀ cl, gs = .suspended k₀ l₀ c₀ p₀ fs₀ cl ∧ t₀ = k₀ (.send .none))

theorem pyNext_gen {a : Addr} {g : Nat} {gs : GenState} {Q : Option Value → Shared → Prop} {E : Value → Shared → Prop} {c₀ : Code} {t₀ : Sem Fin} {fs₀ : List PySem.Frame} (hh : A.handled = none)
    (hl : s.heap.NoLimit) (hroom : A.depth < recursionLimit) (hg : s.heap.IsGen a g) (hgs : s.gens[g]? = some gs) (hw : Wakes1 gs c₀ t₀ fs₀)
    (hgo : SegX (model prog w) A.in1 c₀ t₀ fs₀ (s.setGen g .running) (fun e s₁ => match e with
      | .ret r => r = .ok (.ret .none) ∧ ∀ h', (∀ b o, s₁.heap.get? b = some o → h'.get? b = some o) → Q none { s₁.setGen g .finished with heap := h' }
      | .susp v g₀ l₀ k₀ c₀ p₀ fs₀ => Q (some v) (s₁.setGen g (End.susp v g₀ l₀ k₀ c₀ p₀ fs₀).genState))) :
    wpAny (model prog w) A (pyNext (.ref a)) Q E s := by
  unfold pyNext
  refine wpAny_bind (wpAny_attempt (wpAny_callSpecial?_slot (name := Str.ofString "__next__") hg.typeIs slot_gen_next
    (wpAny_call_entry slot_gen_next hg.typeIs entry_gen_next ?_ (args_gen_next _))))
  show wpAny _ A.in1 (Builtin.Generator.genWake (.ref a) (.send .none)) _ _ s
  unfold Builtin.Generator.genWake
  refine wpAny_bind (wpAny_holding (wpAny_genNumber hg (wpAny_bind (wpAny_genState hgs ?_))))
  have key : ∀ {α : Type} {Q' : α → Shared → Prop} {E' : Value → Shared → Prop} {k : GenResult → Sem α},
      (∀ (r : Result) (s₁ : Shared), (r = .ok (.ret .none) ∧ ∀ h' : Heap, (∀ b o, s₁.heap.get? b = some o → h'.get? b = some o) → Q none { s₁.setGen g .finished with heap := h' }) → wpAny (model prog w) A.in1 (k (End.ret r).result) Q' E' (s₁.setGen g .finished)) →
      (∀ v s', Q (some v) s' → wpAny (model prog w) A.in1 (k (.yielded v)) Q' E' s') → wpAny (model prog w) A.in1 (.resume g (.send .none) [] k) Q' E' s := by
    intro α Q' E' k h1 h2 Γ p hΓ
    refine PySem.W.X.wake_any α prog w hgs (c₀ := c₀) (t₀ := t₀) (fs₀ := fs₀) ?_ (fun Γ => Γ.In A.in1) (fun _ h => h) (hgo.mono fun e s₁ he Γ p hΓ => ?_) Γ p hΓ
    · rcases hw with ⟨h, h', h''⟩ | h
      · exact .inl ⟨h, rfl, h', h''⟩
      · exact .inr h
    · cases e with
      | ret r => exact h1 r s₁ he Γ p hΓ
      | susp v g₀ l₀ k₀ c₁ p₀ fs₁ => exact h2 v _ he Γ p hΓ
  cases gs with
  | running => rcases hw with ⟨h, _⟩ | ⟨_, _, _, _, h, _⟩ <;> cases h
  | finished => rcases hw with ⟨h, _⟩ | ⟨_, _, _, _, h, _⟩ <;> cases h
  | _ =>
    refine wpAny_bind (wpAny_roomToWake hl hroom ?_)
    show wpAny _ A.in1 (.resume g (.send .none) [] _) _ _ s
    refine key (fun x s₁ hx => ?_) (fun v s' hv => ?_)
    · obtain ⟨rfl, hp⟩ := hx
      show wpAny _ A.in1 (newExc (.type "StopIteration") [] >>= _) _ _ _
      refine wpAny_bind ?_
      simp only [newExc, newTuple]
      refine wpAny_bind (wpAny_newObj_type ?_ (by size_fits))
      refine wpAny_bind (m := firstArgMember _ _) (wpAny_of_eq (a := Value.none) (by first | rfl | (simp only [firstArgMember]; rfl)) ?_)
      refine wpAny_newObj_type ?_ (by size_fits)
      simp only [raiseNew]
      refine wpAny_bind (wpAny_bind (wpAny_handled ?_))
      first | rw [show A.in1.handled = none from hh] | rw [hh]
      refine wpAny_throw ?_
      refine wpAny_bind (wpAny_isInstance (T := "StopIteration") (b := true) ⟨_, Heap.get?_push_size _ rfl, rfl⟩ isSubtype_stop ?_)
      exact wpAny_pure (hp _ fun b o hb => Heap.get?_push_of_some _ (Heap.get?_push_of_some _ hb))
    · exact wpAny_pure ⟨v, rfl, wpAny_pure hv⟩
end
end Mine
end

noncomputable section
open PySem PyProof.Rows
open PySem.W.X (SegX)
set_option Elab.async false
set_option linter.all false
set_option autoImplicit false
namespace Mine

theorem SegX.quiet {M : Model} {A : Around} {c : Code} {t : Sem Fin} {fs : List PySem.Frame} {s : Shared} {P : End → Shared → Prop} (x : SegX M A c t fs s P) : SegX M A c t fs s (fun e s' => e.quiet = true ∧ P e s') := fun Γ p hc hΓ => by
  obtain ⟨e, s', hr, hq, hp⟩ := x Γ p hc hΓ
  exact ⟨e, s', hr, hq, hq, hp⟩

theorem setGen_other {s : Shared} {g i : Nat} {x : GenState} (h : i ≠ g) : (s.setGen g x).gens[i]? = s.gens[i]? := (GenOnly.setGen s g x).2 i h
theorem setGen_bare {s : Shared} {g : Nat} {x : GenState} (h : AllBare s.gens) (hx : x.bare = true) : AllBare (s.setGen g x).gens := by
  intro y hy
  obtain ⟨i, hi, rfl⟩ := Array.mem_iff_getElem.mp hy
  by_cases e : i = g
  · subst e
    have : (s.setGen i x).gens[i] = x := by simp [Shared.setGen]
    rw [this]; exact hx
  · have h1 := setGen_other (s := s) (x := x) e
    rw [Array.getElem?_eq_getElem hi] at h1
    obtain ⟨hi', e'⟩ := Array.getElem?_eq_some_iff.mp h1.symm
    exact e' ▸ h _ (Array.getElem_mem hi')

section
variable {P P' P'' : Addr → Prop} {s s' s'' : Shared}
theorem Since.refl (h : ∀ b, P b → ∃ o, s.heap.get? b = some o) : Since P P s s := ⟨fun _ _ _ e => e, fun _ _ e => e, id, rfl, fun _ q => .inl q, h⟩
theorem Since.trans (x : Since P P' s s') (y : Since P' P'' s' s'') : Since P P'' s s'' where
  keep := fun b o hb e => y.keep b o (fun q => by
    rcases x.new b q with q | q
    · exact hb q
    · rw [q] at e; cases e) (x.keep b o hb e)
  gens := fun i z e => y.gens i z (x.gens i z e)
  bare := fun q => y.bare (x.bare q)
  os := y.os.trans x.os
  new := fun b q => by
    rcases y.new b q with q | q
    · exact x.new b q
    · by_cases hp : P b
      · exact .inl hp
      · refine .inr ?_
        cases e : s.heap.get? b with
        | none => rfl
        | some o => have := x.keep b o hp e; rw [q] at this; cases this
  alive := y.alive
theorem Since.ofExt (x : Ext s s') (h : ∀ b, P b → ∃ o, s.heap.get? b = some o) : Since P P s s' := ⟨fun b o _ e => x.keep b o e, x.gens, x.bare, x.os, fun _ q => .inl q, fun b q => let ⟨o, e⟩ := h b q; ⟨o, x.keep b o e⟩⟩
end

section
variable (G : Glo) (A : Around) (s₀ : Shared) (W : Addr → Prop) (g : Nat)

/- what the world outside keeps while the generator sleeps -/
structure Suit (P : Addr → Prop) (s s'' : Shared) : Prop where
  kp : ∀ b o, P b → s.heap.get? b = some o → s''.heap.get? b = some o
  ext : Ext s₀ s''
  bare : AllBare s''.gens
  low : Low (fun a => W a ∨ P a) s''

noncomputable def Go (P : Addr → Prop) (gs : GenState) (s : Shared) (R : Shared → End → Shared → Prop) : Prop :=
  ∃ c₀ t₀ fs₀, Wakes1 gs c₀ t₀ fs₀ ∧ ∀ s'', Suit s₀ W P s s'' → SegX G.M A.in1 c₀ t₀ fs₀ (s''.setGen g .running) (R (s''.setGen g .running))

/- the items that are still to come -/
noncomputable def GoesL : List PV → (Addr → Prop) → GenState → Shared → Prop
  | [], P, gs, s => Go G A s₀ W g P gs s fun sr e s₁ => match e with
    | .ret r => r = .ok (.ret .none) ∧ ∃ P', Since P P' sr s₁
    | .susp .. => False
  | d :: ds, P, gs, s => Go G A s₀ W g P gs s fun sr e s₁ => match e with
    | .ret _ => False
    | .susp v g₀ l₀ k₀ c₁ p₁ fs₁ => ∃ P', Since P P' sr s₁ ∧ GRep G (fun a => W a ∨ P' a) s₁.heap v d ∧ GoesL ds P' (End.susp v g₀ l₀ k₀ c₁ p₁ fs₁).genState s₁

/- how a turn ends that has ds still to come, from sr on, with P private then -/
noncomputable def EndL : List PV → (Addr → Prop) → Shared → End → Shared → Prop
  | [], P, sr, e, s₁ => match e with
    | .ret r => r = .ok (.ret .none) ∧ ∃ P', Since P P' sr s₁
    | .susp .. => False
  | d :: ds, P, sr, e, s₁ => match e with
    | .ret _ => False
    | .susp v g₀ l₀ k₀ c₁ p₁ fs₁ => ∃ P', Since P P' sr s₁ ∧ GRep G (fun a => W a ∨ P' a) s₁.heap v d ∧ GoesL G A s₀ W g ds P' (End.susp v g₀ l₀ k₀ c₁ p₁ fs₁).genState s₁
end

section
variable {G : Glo} {A : Around} {s₀ : Shared} {W : Addr → Prop} {g : Nat}

theorem goesL_iff {ds : List PV} {P : Addr → Prop} {gs : GenState} {s : Shared} : GoesL G A s₀ W g ds P gs s ↔ Go G A s₀ W g P gs s (EndL G A s₀ W g ds P) := by
  cases ds with
  | nil => exact Iff.rfl
  | cons d ds => exact Iff.rfl

theorem GoesL.frame {ds : List PV} {P : Addr → Prop} {gs : GenState} {s s' : Shared} (h : GoesL G A s₀ W g ds P gs s) (hk : ∀ b o, P b → s.heap.get? b = some o → s'.heap.get? b = some o) : GoesL G A s₀ W g ds P gs s' := by
  rw [goesL_iff] at h ⊢
  obtain ⟨c₀, t₀, fs₀, hw, h⟩ := h
  exact ⟨c₀, t₀, fs₀, hw, fun s'' S => h s'' ⟨fun b o hb e => S.kp b o hb (hk b o hb e), S.ext, S.bare, S.low⟩⟩

theorem iterD_gen {a : Addr} {ds : List PV} (hh : A.handled = none) (hroom : A.depth < recursionLimit) (hB : Base G s₀.heap) : IterD G A s₀ W g (.ref a) ds
    (fun P i s => s.heap.IsGen a g ∧ ¬ P a ∧ ¬ W a ∧ (∀ b, P b → ¬ W b) ∧ ∃ gs, s.gens[g]? = some gs ∧ GoesL G A s₀ W g (ds.drop i) P gs s) where
  frame := fun P i s s' st hk hg => by
    obtain ⟨⟨o, nm, qn, ho, r⟩, hP, hW, hPW, gs, hgs, hgo⟩ := st
    exact ⟨⟨o, nm, qn, hk _ _ hW ho, r⟩, hP, hW, hPW, gs, hg gs hgs, hgo.frame fun b o hb e => hk b o (hPW b hb) e⟩
  item := fun P i d s Q E hd st ex hb lo hQ => by
    obtain ⟨hg, hP, hW, hPW, gs, hgs, hgo⟩ := st
    have hlt := (List.getElem?_eq_some_iff.mp hd).1
    have hdrop : ds.drop i = d :: ds.drop (i + 1) := by
      rw [List.drop_eq_getElem_cons hlt]
      congr 1
      exact (List.getElem?_eq_some_iff.mp hd).2
    rw [hdrop, goesL_iff] at hgo
    obtain ⟨c₀, t₀, fs₀, hw, hgo⟩ := hgo
    refine pyNext_gen hh (hB.keeps ex.keep).nolimit hroom hg hgs hw ((SegX.quiet (hgo s ⟨fun _ _ _ e => e, ex, hb, lo⟩)).mono fun e s₁ q => ?_)
    cases e with
    | ret r => exact q.2.elim
    | susp v g₀ l₀ k₀ c₁ p₁ fs₁ =>
      obtain ⟨hq, P', S, rv, hgo'⟩ := q
      have hin : (s.setGen g .running).gens[g]? = some .running := setGen_self hgs
      obtain ⟨o, nm, qn, ho, r⟩ := hg
      refine hQ v _ P' ⟨fun b o hb e => S.keep b o hb e, fun j y hj e => ?_, fun q => ?_, S.os⟩ S.new S.alive ⟨⟨o, nm, qn, S.keep a o hP ho, r⟩, fun q => ?_, hW, fun b q => ?_, _, setGen_self (S.gens _ _ hin), hgo'.frame fun _ _ _ e => e⟩ rv
      · rw [setGen_other hj]
        exact S.gens j y (by rw [setGen_other hj]; exact e)
      · exact setGen_bare (S.bare (setGen_bare q rfl)) (End.bare_of_quiet hq)
      · rcases S.new a q with q | q
        · exact hP q
        · have q' : s.heap.get? a = none := q
          rw [ho] at q'; cases q'
      · rcases S.new b q with q | q
        · exact hPW b q
        · intro hw
          obtain ⟨o', e'⟩ := lo b (.inl hw)
          have q' : s.heap.get? b = none := q
          rw [q'] at e'; cases e'
  done := fun P s Q E st ex hb lo hQ => by
    obtain ⟨hg, hP, hW, hPW, gs, hgs, hgo⟩ := st
    rw [List.drop_length, goesL_iff] at hgo
    obtain ⟨c₀, t₀, fs₀, hw, hgo⟩ := hgo
    refine pyNext_gen hh (hB.keeps ex.keep).nolimit hroom hg hgs hw ((hgo s ⟨fun _ _ _ e => e, ex, hb, lo⟩).mono fun e s₁ q => ?_)
    cases e with
    | susp v g₀ l₀ k₀ c₁ p₁ fs₁ => exact q.elim
    | ret r =>
      obtain ⟨rfl, P', S⟩ := q
      refine ⟨rfl, fun h' hk => hQ _ ⟨fun b o hb e => hk b o (S.keep b o hb e), fun j y hj e => ?_, fun q => setGen_bare (S.bare (setGen_bare q rfl)) rfl, S.os⟩⟩
      show (s₁.setGen g .finished).gens[j]? = some y
      rw [setGen_other hj]
      exact S.gens j y (by rw [setGen_other hj]; exact e)
  own := fun P i s target v Q E st hQ => by
    obtain ⟨⟨o, nm, qn, ho, hc, hd, _⟩, _⟩ := st
    exact letOwned_other ho hc hd (by decide) hQ
end
end Mine
end

noncomputable section
open PySem PyProof.Rows
open PySem.W.X (SegX)
set_option Elab.async false
set_option linter.all false
set_option autoImplicit false
set_option maxRecDepth 100000
namespace Mine

noncomputable def noPos : Pos := ⟨0, 0, 0, 0⟩
noncomputable def defOfStmt : Stmt → Arguments × List Stmt × Scope
  | .FunctionDef _ a b _ _ _ sc _ _ _ => (a, b, sc)
  | _ => (⟨[], [], none, [], [], none, []⟩, [], ⟨.function, [], false, false, []⟩)
noncomputable def nth (l : List Stmt) (i : Nat) : Stmt := match l.drop i with
  | st :: _ => st
  | [] => .Pass noPos
/- the i-th statement of the top, a def -/
noncomputable def defAt (i : Nat) : Arguments × List Stmt × Scope := defOfStmt (nth PySem.Challenge.pw_ph0117_01.main.body i)
noncomputable def forT : Stmt → Expr
  | .For t _ _ _ _ => t
  | _ => .Constant .none 0 noPos
noncomputable def forB : Stmt → List Stmt
  | .For _ _ b _ _ => b
  | _ => []

noncomputable def upv (i : Int) (l : List Nat) : PV := .tup [.int i, .str ⟨l.toArray⟩]
noncomputable def units : Nat → Bool → List Nat → List PV
  | i, true, [] => [upv ((i : Int) - 1) [92]]
  | i, false, [] => []
  | i, true, c :: r => upv i [92, c] :: units (i + 1) false r
  | i, false, c :: r => if c = 92 then units (i + 1) true r else upv i [c] :: units (i + 1) false r

noncomputable def gBody : List Stmt := (defAt 1).2.1
noncomputable def gSc : Scope := (defAt 1).2.2
noncomputable def gT : Expr := forT (nth gBody 2)
noncomputable def gB : List Stmt := forB (nth gBody 2)

noncomputable def scal : PV → Bool
  | .none => true
  | .bool _ => true
  | .int _ => true
  | .str _ => true
  | _ => false
theorem scal_rep {prog : Program} {w : World} {W W' : Addr → Prop} {h h' : Heap} {v : Value} {d : PV} (hd : scal d = true) (r : Rep prog w W h v d) : Rep prog w W' h' v d := by
  cases r <;> first | exact .none | exact .bool _ | exact .int _ _ | exact .str _ _ | cases hd

theorem gk_addr : gSc.names.lookup ("addr" : Str) = some .local := by kernel_rfl
theorem gk_pos : gSc.names.lookup ("pos" : Str) = some .local := by kernel_rfl
theorem gk_escape : gSc.names.lookup ("escape" : Str) = some .local := by kernel_rfl
theorem gk_ch : gSc.names.lookup ("ch" : Str) = some .local := by kernel_rfl
theorem gk_enum : gSc.names.lookup ("enumerate" : Str) = some .globalImplicit := by kernel_rfl

noncomputable def sg (x : Str) (pv : Int) (esc : Bool) : Sig := [("addr", .str x), ("pos", .int pv), ("escape", .bool esc)]
noncomputable def sgc (x : Str) (pv : Int) (esc : Bool) (c : Nat) : Sig := [("addr", .str x), ("pos", .int pv), ("escape", .bool esc), ("ch", .str ⟨#[c]⟩)]
theorem sg_putAll {x : Str} {pv i : Int} {esc : Bool} {c : Nat} : putAll (sg x pv esc) ["pos", "ch"] [.int i, .str ⟨#[c]⟩] = sgc x i esc c := by kernel_rfl
theorem sgc_escape {x : Str} {pv : Int} {esc b : Bool} {c : Nat} : put (sgc x pv esc c) "escape" (.bool b) = sgc x pv b c := by kernel_rfl
theorem sgc_sub {x : Str} {pv : Int} {esc : Bool} {c : Nat} : ∀ y d, (sg x pv esc).lookup y = some d → (sgc x pv esc c).lookup y = some d := by
  intro y d
  unfold sg sgc
  simp only [List.lookup]
  intro h
  split <;> simp_all
  split <;> simp_all
  split <;> simp_all
theorem l_addr {x : Str} {pv : Int} {esc : Bool} {c : Nat} : (sgc x pv esc c).lookup ("addr" : Str) = some (.str x) := by kernel_rfl
theorem l_pos {x : Str} {pv : Int} {esc : Bool} {c : Nat} : (sgc x pv esc c).lookup ("pos" : Str) = some (.int pv) := by kernel_rfl
theorem l_escape {x : Str} {pv : Int} {esc : Bool} {c : Nat} : (sgc x pv esc c).lookup ("escape" : Str) = some (.bool esc) := by kernel_rfl
theorem l_ch {x : Str} {pv : Int} {esc : Bool} {c : Nat} : (sgc x pv esc c).lookup ("ch" : Str) = some (.str ⟨#[c]⟩) := by kernel_rfl
theorem m_addr {x : Str} {pv : Int} {esc : Bool} : (sg x pv esc).lookup ("addr" : Str) = some (.str x) := by kernel_rfl
theorem m_pos {x : Str} {pv : Int} {esc : Bool} : (sg x pv esc).lookup ("pos" : Str) = some (.int pv) := by kernel_rfl
theorem m_escape {x : Str} {pv : Int} {esc : Bool} : (sg x pv esc).lookup ("escape" : Str) = some (.bool esc) := by kernel_rfl
theorem back_str : ("\\" : Str) = ⟨#[92]⟩ := by decide +kernel

theorem sgc_cases {x : Str} {pv : Int} {esc : Bool} {c : Nat} {y : Str} {d : PV} (h : (sgc x pv esc c).lookup y = some d) : scal d = true ∧ gSc.names.lookup y = some .local := by
  unfold sgc at h
  simp only [List.lookup] at h
  split at h
  · rename_i e; have : y = "addr" := by simpa using e
    subst this; cases h; exact ⟨rfl, gk_addr⟩
  · split at h
    · rename_i e; have : y = "pos" := by simpa using e
      subst this; cases h; exact ⟨rfl, gk_pos⟩
    · split at h
      · rename_i e; have : y = "escape" := by simpa using e
        subst this; cases h; exact ⟨rfl, gk_escape⟩
      · split at h
        · rename_i e; have : y = "ch" := by simpa using e
          subst this; cases h; exact ⟨rfl, gk_ch⟩
        · cases h

end Mine
end

noncomputable section
open PySem PyProof.Rows
open PySem.W.X (SegX)
set_option Elab.async false
set_option linter.all false
set_option autoImplicit false
set_option maxRecDepth 100000
namespace Mine

theorem draws_str {prog : Program} {w : World} {A : Around} (hh : A.handled = none) (it : Addr) (x : Str) (t : Tok) :
    Draws prog w A it [it] x.cps.size (fun i v => ∃ c u, x.cps[i]? = some c ∧ v = .str ⟨#[c]⟩ u) (fun i h => h.IsStrIter it (strIterType x) x t i) := by
  unfold strIterType
  split
  · exact Draws.strAscii hh it x t
  · exact Draws.strWide hh it x t

section
variable {G : Glo} {A : Around} {s₀ : Shared} {W : Addr → Prop} {g : Nat} {genv : Env} {k : Nat}

structure GEnv (genv : Env) : Prop where
  sc : genv.scope = gSc
  cells : genv.cells = []

noncomputable abbrev GFr (G : Glo) (s₀ : Shared) (W : Addr → Prop) (genv : Env) (P : Addr → Prop) (σ : Sig) (s : Shared) : Prop := FnFrame G s₀ (fun _ => False) genv (fun a => W a ∨ P a) none none σ s

theorem own_gen (ge : GEnv genv) {b : Addr} (h : Own genv none b) : b = genv.locals := by
  rcases h with h | ⟨y, h⟩ | h
  · exact h
  · rw [ge.cells] at h; simp at h
  · cases h

theorem since_extS {P : Addr → Prop} {σ : Sig} {s s' : Shared} (ge : GEnv genv) (hP : P genv.locals) (F : GFr G s₀ W genv P σ s') (e : ExtS (Own genv none) s s') : Since P P s s' :=
  ⟨fun b o hb q => e.keep b o (fun w => hb (own_gen ge w ▸ hP)) q, e.gens, e.bare, e.os, fun _ q => .inl q, fun b q => F.low b (.inr q)⟩

theorem gfr_wake (ge : GEnv genv) (hg0 : s₀.gens[g]? = none) {P : Addr → Prop} {σ : Sig} {s s'' : Shared} (hσ : ∀ y d, σ.lookup y = some d → scal d = true ∧ gSc.names.lookup y = some .local)
    (F : GFr G s₀ W genv P σ s) (hP : P genv.locals) (S : Suit s₀ W P s s'') : GFr G s₀ W genv P σ (s''.setGen g .running) := by
  refine ⟨{ base₀ := F.base₀, ext := ⟨S.ext.keep, fun i y e => ?_, fun q => setGen_bare (S.ext.bare q) rfl, S.ext.os⟩, bare := setGen_bare S.bare rfl, fk := F.fk, gl := F.gl, bl := F.bl, low := S.low, wl := .inr hP, wc := fun y c e => by rw [ge.cells] at e; simp at e, hi := F.hi, ns := ?_, cl := fun y c e => by rw [ge.cells] at e; simp at e, kd := F.kd, apart := F.apart, mu := fun _ e => nomatch e }, F.hc, F.hcell, fun _ q => q.elim, fun _ q => q.elim, fun _ => rfl⟩
  · have : i ≠ g := by rintro rfl; rw [hg0] at e; cases e
    rw [setGen_other this]; exact S.ext.gens i y e
  · obtain ⟨m, hm, h⟩ := F.ns
    refine ⟨m, hm.at' fun o e => S.kp _ o hP e, fun y d e ky => ?_⟩
    obtain ⟨v, h1, h2⟩ := h y d e ky
    refine ⟨v, h1, .inl ⟨nofun, ?_⟩⟩
    rcases h2 with ⟨_, q⟩ | ⟨q, _⟩
    · exact scal_rep (hσ y d e).1 q
    · cases q

theorem room_func (R : Room (k + 1) A) {b : List Stmt} {e : Env} : Room k (A.in1.over (.func b e) []) :=
  ⟨R.hd, by have := R.depth; show A.depth + 0 + 1 + k < _; (first | lia | omega), by have := R.units; show A.units + 1 + 0 + 3 + 8 * k + 8 < _; (first | lia | omega)⟩
theorem room_for (R : Room (k + 1) A) {b b' : List Stmt} {e e' : Env} {t : Expr} {it : Value} {kf : Result → Sem Fin} {p : Pos} : Room k (A.in1.over (.forLoop t it b' [] e') [.ret kf none false [] (.func b e) p []]) :=
  ⟨R.hd, by have := R.depth; show A.depth + (1 + 0) + 0 + k < _; (first | lia | omega), by have := R.units; show A.units + 1 + (3 + 0) + 0 + 8 * k + 8 < _; (first | lia | omega)⟩

theorem g_end {pv : Int} {esc : Bool} {x : Str} : (if esc = true then [upv pv [92]] else []) = (match esc with | true => [upv pv [92]] | false => []) := by cases esc <;> rfl

theorem ok_escape : okName gSc none "escape" := ⟨.inl gk_escape, nofun⟩
theorem ok_names : ∀ x ∈ (["pos", "ch"] : List Str), okName gSc none x := by
  intro x hx
  simp only [List.mem_cons, List.not_mem_nil, or_false] at hx
  rcases hx with rfl | rfl
  · exact ⟨.inl gk_pos, nofun⟩
  · exact ⟨.inl gk_ch, nofun⟩

theorem eq_back {c : Nat} : cmpop .Eq (.str ⟨#[c]⟩) (.str ("\\" : Str)) = some (decide (c = 92)) := by
  rw [back_str]
  show some ((⟨#[c]⟩ : Str) == ⟨#[92]⟩) = _
  by_cases h : c = 92
  · subst h; rfl
  · have : (⟨#[c]⟩ : Str) ≠ ⟨#[92]⟩ := by
      intro q; injection q with q; injection q with q; injection q with q; exact h q
    simp [h, this]

theorem g_loop (R : Room (k + 1) A) (ge : GEnv genv) (hg0 : s₀.gens[g]? = none) {x : Str} {t : Tok} {E I : Addr} {kf : Result → Sem Fin} {p : Pos}
    (hend : ∀ pv esc P0 sr P s, Since P0 P sr s → GFr G s₀ W genv P (sg x pv esc) s → P genv.locals → SegX G.M A.in1 (.func gBody genv) (kf (.ok .next)) [] s (EndL G A s₀ W g (if esc = true then [upv pv [92]] else []) P0 sr))
    (hEI : E ≠ I) (hEL : E ≠ genv.locals) (hIL : I ≠ genv.locals) :
    ∀ (r : List Nat) (i : Nat) (esc : Bool) (pv : Int) (P0 : Addr → Prop) (sr : Shared) (P : Addr → Prop) (s : Shared) (old : Value), x.cps.toList.drop i = r → i ≤ x.cps.size → (0 < i → pv = i - 1) → (esc = true → 0 < i) → Since P0 P sr s → GFr G s₀ W genv P (sg x pv esc) s →
      P genv.locals → P E → P I → (∀ b, P b → s₀.heap.get? b = none) → (∀ b, P b → ¬ W b) → IsEnum s.heap E I i old → s.heap.IsStrIter I (strIterType x) x t i →
      SegX G.M A.in1 (.forLoop gT (.ref E) gB [] genv) (G.M.den (.forLoop gT (.ref E) gB [] genv)) [.ret kf none false [] (.func gBody genv) p []] s (EndL G A s₀ W g (units i esc r) P0 sr) := by
  intro r
  induction r with
  | nil =>
    intro i esc pv P0 sr P s old hr hi hpv hesc S F hPL hPE hPI hP0 hPW he hit
    have hin : i = x.cps.size := by
      have := List.drop_eq_nil_iff.mp hr
      simp at this; (first | lia | omega)
    subst hin
    have RR : Room k (A.in1.over (.forLoop gT (.ref E) gB [] genv) [.ret kf none false [] (.func gBody genv) p []]) := room_for R
    have D := draws_str (prog := G.prog) (w := G.w) (A := (A.in1.over (.forLoop gT (.ref E) gB [] genv) [.ret kf none false [] (.func gBody genv) p []]).in1) RR.hd I x t
    refine x_forLoop (wpAny_pyNext_enum_endD D he hit fun h' hx => ?_)
    refine x_leaf (.ok .next) ?_
    have md : Mvd (fun b => b = I) (fun _ => False) s { s with heap := h' } := mvd_extBut (tk := s.toks) hx
    have al : ∀ b, P b ∧ b ≠ I → ∃ o, h'.get? b = some o := fun b q => by obtain ⟨o, e⟩ := F.low b (.inr q.1); exact ⟨o, hx b o q.2 e⟩
    have F' : GFr G s₀ W genv (fun b => P b ∧ b ≠ I) (sg x pv esc) { s with heap := h' } := by
      have ft : Feet genv none (fun a => W a ∨ (P a ∧ a ≠ I)) := ⟨.inr ⟨hPL, Ne.symm hIL⟩, fun y c e => (by rw [ge.cells] at e; simp at e), fun _ e => nomatch e⟩
      refine ⟨F.toFrame.mvd md (fun b q => .inr (q ▸ hPI)) (fun b q => hP0 b (q ▸ hPI)) (fun _ q => q.elim) (fun a q => q.imp id And.left) ft (fun a q => ?_) (fun q => hIL q.symm) (fun y c e => by rw [ge.cells] at e; simp at e) (fun _ e => nomatch e), F.hc, F.hcell, fun _ q => q.elim, fun _ q => q.elim, fun _ => rfl⟩
      by_cases hp : a = I
      · rcases q with q | q
        · exact absurd (hp ▸ q) (hPW I hPI)
        · exact absurd hp q.2
      · obtain ⟨o, e⟩ := F.low a (q.imp id And.left); exact ⟨o, hx a o hp e⟩
    have S' : Since P0 (fun b => P b ∧ b ≠ I) sr { s with heap := h' } := S.trans ⟨fun b o hb e => hx b o (fun q => hb (q ▸ hPI)) e, fun _ _ e => e, id, rfl, fun b q => .inl q.1, al⟩
    have hpv' : units x.cps.size esc [] = if esc = true then [upv pv [92]] else [] := by
      cases esc with
      | false => rfl
      | true => rw [hpv (hesc rfl)]; rfl
    rw [hpv']
    exact hend pv esc P0 sr _ _ S' F' ⟨hPL, Ne.symm hIL⟩
  | cons c r ih =>
    intro i esc pv P0 sr P s old hr hi hpv hesc S F hPL hPE hPI hP0 hPW he hit
    have hlt : i < x.cps.size := by
      cases Nat.lt_or_ge i x.cps.size with
      | inl h => exact h
      | inr h => rw [List.drop_eq_nil_of_le (by simpa using h)] at hr; cases hr
    have hci : x.cps[i]? = some c ∧ x.cps.toList.drop (i + 1) = r := by
      have h1 : x.cps.toList.drop i = x.cps.toList[i]'(by simpa using hlt) :: x.cps.toList.drop (i + 1) := List.drop_eq_getElem_cons (by simpa using hlt)
      rw [h1] at hr
      injection hr with a b
      refine ⟨?_, b⟩
      rw [Array.getElem?_eq_getElem hlt, ← a]; rfl
    have RR : Room k (A.in1.over (.forLoop gT (.ref E) gB [] genv) [.ret kf none false [] (.func gBody genv) p []]) := room_for R
    have D := draws_str (prog := G.prog) (w := G.w) (A := (A.in1.over (.forLoop gT (.ref E) gB [] genv) [.ret kf none false [] (.func gBody genv) p []]).in1) RR.hd I x t
    refine x_forLoop (wpAny_pyNext_enum_itemD D he hit hlt hEI (by simpa using hEI) fun xv h' tk hPx ho hit' hT hsz hk => ?_)
    obtain ⟨c', u, hc', rfl⟩ := hPx
    rw [hci.1] at hc'
    cases hc'
    refine wpAny_letOwnedTupleGo_enum ho fun h'' he'' hs'' => ?_
    generalize hTa : s.heap.objs.size = T at hT hsz hs'' ⊢
    have sT : s.heap.get? T = none := by rw [← hTa]; exact get_size _
    have hTE : T ≠ E := fun q => by rw [q] at sT; rw [he] at sT; cases sT
    generalize hs2 : ({ heap := h'', gens := s.gens, drawn := s.drawn, toks := tk + 1, os := s.os } : Shared) = s₂
    have hh2 : s₂.heap = h'' := by rw [← hs2]
    have hk2 : ∀ b o, b ≠ E → b ≠ I → s.heap.get? b = some o → s₂.heap.get? b = some o := fun b o h1 h2 e => by rw [hh2]; exact hs''.extBut b o h1 (hk b o h1 h2 e)
    have md : Mvd (fun b => b = E ∨ b = I) (fun _ => False) s s₂ := ⟨fun b o hb e => hk2 b o (fun q => hb (.inl q)) (fun q => hb (.inr q)) e, fun _ _ _ e => by rw [← hs2]; exact e, fun q => by rw [← hs2]; exact q, by rw [← hs2]⟩
    have inP : ∀ b, b = E ∨ b = I → P b := fun b q => by rcases q with rfl | rfl <;> assumption
    have hit2 : s₂.heap.IsStrIter I (strIterType x) x t (i + 1) := by rw [hh2]; exact hit'.extBut hs''.extBut (Ne.symm hEI)
    have he2 : IsEnum s₂.heap E I ((i : Int) + 1) (.str ⟨#[c]⟩ u) := by rw [hh2]; exact he''
    have hlow2 : ∀ a, W a ∨ P a → ∃ o, s₂.heap.get? a = some o := fun a q => by
      by_cases h1 : a = E
      · rw [h1]; exact ⟨_, he2⟩
      · by_cases h2 : a = I
        · rw [h2]; obtain ⟨o, e, _⟩ := hit2; exact ⟨o, e⟩
        · obtain ⟨o, e⟩ := F.low a q; exact ⟨o, hk2 a o h1 h2 e⟩
    have F2 : GFr G s₀ W genv P (sg x pv esc) s₂ := F.of (F.toFrame.mvd md (fun b q => .inr (inP b q)) (fun b q => hP0 b (inP b q)) (fun _ q => q.elim) (fun a q => q) F.toFrame.feet hlow2
      (fun q => q.elim (fun q => hEL q.symm) fun q => hIL q.symm) (fun y c e => by rw [ge.cells] at e; simp at e) (fun _ e => nomatch e))
    have S2 : Since P0 P sr s₂ := S.trans ⟨fun b o hb e => md.keep b o (fun q => hb (inP b q)) e, fun _ _ e => by rw [← hs2]; exact e, fun q => by rw [← hs2]; exact q, by rw [← hs2], fun _ q => .inl q, fun b q => hlow2 b (.inr q)⟩
    have rT : GRep G (fun a => W a ∨ P a) s₂.heap (.ref T) (.tup [.int i, .str ⟨#[c]⟩]) := by
      refine .tup (n := 0) (vs := [.int i tk, .str ⟨#[c]⟩ u]) (fun q => ?_) ?_ (.cons (.int _ _) (.cons (.str _ _) .nil))
      · obtain ⟨o, e⟩ := F.low T q; rw [sT] at e; cases e
      · rw [hh2]; exact hs''.extBut T _ hTE hT
    refine assign_tuple RR ge.sc F2 (xs := ["pos", "ch"]) (by rfl) rfl ok_names rT fun s₃ F3 e3 => ?_
    rw [sg_putAll] at F3
    have S3 : Since P0 P sr s₃ := S2.trans (since_extS ge hPL F3 e3)
    have keep3 : ∀ b o, b ≠ genv.locals → s₂.heap.get? b = some o → s₃.heap.get? b = some o := fun b o hb e => e3.keep b o (fun q => hb (own_gen ge q)) e
    have he3 : IsEnum s₃.heap E I ((i : Int) + 1) (.str ⟨#[c]⟩ u) := keep3 _ _ hEL he2
    have hit3 : s₃.heap.IsStrIter I (strIterType x) x t (i + 1) := by obtain ⟨o, ho, q⟩ := hit2; exact ⟨o, keep3 _ _ hIL ho, q⟩
    -- on to the next sign
    have next : ∀ (esc' : Bool) (P0 : Addr → Prop) (sr s' : Shared), Since P0 P sr s' → GFr G s₀ W genv P (sgc x i esc' c) s' → (∀ b o, b ≠ genv.locals → P b → s₃.heap.get? b = some o → s'.heap.get? b = some o) →
        SegX G.M A.in1 (.forLoop gT (.ref E) gB [] genv) (.pure (.again (.forLoop gT (.ref E) gB [] genv))) [.ret kf none false [] (.func gBody genv) p []] s' (EndL G A s₀ W g (units (i + 1) esc' r) P0 sr) := by
      intro esc' P0 sr s' S' F' hk'
      refine x_again rfl (ih (i + 1) esc' i P0 sr P s' _ hci.2 hlt (fun _ => by (first | lia | omega)) (fun _ => Nat.succ_pos _) S' (F'.of (F'.toFrame.forget sgc_sub)) hPL hPE hPI hP0 hPW (hk' _ _ hEL hPE he3) ?_)
      obtain ⟨o, ho, q⟩ := hit3
      exact ⟨o, hk' _ _ hIL hPI ho, q⟩
    refine x_execs_cons (x_If (wpAny_mono (semB_plain (sem_nameT l_escape (by decide +kernel)) (b := esc) rfl (fun _ _ => rfl) _ _ _ _ _ _ RR ge.sc F3.toFrame) (fun b s₄ q => ?_) fun _ _ q => q))
    obtain ⟨qe, x4⟩ := q
    have F4 := F3.more x4
    have S4 : Since P0 P sr s₄ := S3.trans (.ofExt x4 fun b q => F3.low b (.inr q))
    have hco : genv.scope.isCoroutine = false := by rw [ge.sc]; rfl
    have hia : interactive genv = false := by unfold interactive; rw [ge.sc]; rfl
    cases b with
    | true =>
      rw [if_pos rfl, ← qe]
      show SegX _ _ _ _ _ _ (EndL G A s₀ W g (upv i [92, c] :: units (i + 1) false r) P0 sr)
      refine x_execs_cons (x_Yield rfl rfl rfl (wpAny_mono (sem_tuple (semEs_cons rfl (sem_name l_pos (by decide +kernel) (by intro h; cases h)) (semEs_cons rfl (sem_binop (d := .str ⟨#[92, c]⟩) sem_str.toT (sem_name l_ch (by decide +kernel) (by intro h; cases h)) (by rw [back_str]; rfl)) semEs_nil)) (by simp) _ _ _ _ _ _ RR ge.sc F4.toFrame) (fun v s₅ q => ?_) fun _ _ q => q) hco hia)
      obtain ⟨x5, rv⟩ := q
      have F5 := F4.more x5
      intro l kk pp hkk
      refine ⟨P, S4.trans (.ofExt x5 fun b q => F4.low b (.inr q)), rv, ?_⟩
      rw [goesL_iff]
      refine ⟨_, _, _, .inr ⟨_, _, _, _, rfl, rfl⟩, fun s'' Su => ?_⟩
      have F6 := gfr_wake ge hg0 (fun y d h => sgc_cases h) F5 hPL Su
      refine hkk _ _ ?_
      show SegX _ _ _ ((execs _ genv).wrap _ _ id id) _ _ _
      refine x_execs_cons (x_stmt (wpAny_mono (semS_assign ok_escape sem_bool (fun _ _ => rfl) _ _ _ _ _ _ _ RR ge.sc F6) (fun f s₇ q => ?_) fun _ _ q => q))
      obtain ⟨W7, mr7, F7, stp, e7, fo⟩ := q
      rcases stp with ⟨_, rfl, rfl⟩ | ⟨_, h2⟩
      · cases f with
        | next =>
          rw [sgc_escape] at F7
          refine next false P _ s₇ (Since.trans (.refl fun b q => Su.low b (.inr q)) (since_extS ge hPL F7 e7)) F7 fun b o hb hpb e => e7.keep b o (fun q => hb (own_gen ge q)) (Su.kp b o hpb (x5.keep b o (x4.keep b o e)))
        | _ => exact fo.elim
      · exact absurd rfl h2
    | false =>
      rw [if_neg nofun, ← qe]
      refine x_execs_cons (x_If (wpAny_mono (semB_compare (c := decide (c = 92)) (sem_name l_ch (by decide +kernel) (by intro h; cases h)) sem_str rfl eq_back _ _ _ _ _ _ RR ge.sc F4.toFrame) (fun b s₅ q => ?_) fun _ _ q => q))
      obtain ⟨qb, x5⟩ := q
      have F5 := F4.more x5
      have S5 : Since P0 P sr s₅ := S4.trans (.ofExt x5 fun b q => F4.low b (.inr q))
      by_cases hc : c = 92
      · have hu : units i false (c :: r) = units (i + 1) true r := if_pos hc
        rw [qb, decide_eq_true hc, if_pos rfl, hu]
        refine x_execs_cons (x_stmt (wpAny_mono (semS_assign ok_escape sem_bool (fun _ _ => rfl) _ _ _ _ _ _ _ RR ge.sc F5) (fun f s₇ q => ?_) fun _ _ q => q))
        obtain ⟨W7, mr7, F7, stp, e7, fo⟩ := q
        rcases stp with ⟨_, rfl, rfl⟩ | ⟨_, h2⟩
        · cases f with
          | next =>
            rw [sgc_escape] at F7
            exact next true P0 sr s₇ (S5.trans (since_extS ge hPL F7 e7)) F7 fun b o hb hpb e => e7.keep b o (fun q => hb (own_gen ge q)) (x5.keep b o (x4.keep b o e))
          | _ => exact fo.elim
        · exact absurd rfl h2
      · have hu : units i false (c :: r) = upv i [c] :: units (i + 1) false r := if_neg hc
        rw [qb, decide_eq_false hc, if_neg nofun, hu]
        refine x_execs_cons (x_Yield rfl rfl rfl (wpAny_mono (sem_tuple (semEs_cons rfl (sem_name l_pos (by decide +kernel) (by intro h; cases h)) (semEs_cons rfl (sem_name l_ch (by decide +kernel) (by intro h; cases h)) semEs_nil)) (by simp) _ _ _ _ _ _ RR ge.sc F5.toFrame) (fun v s₆ q => ?_) fun _ _ q => q) hco hia)
        obtain ⟨x6, rv⟩ := q
        have F6 := F5.more x6
        intro l kk pp hkk
        refine ⟨P, S5.trans (.ofExt x6 fun b q => F5.low b (.inr q)), rv, ?_⟩
        rw [goesL_iff]
        refine ⟨_, _, _, .inr ⟨_, _, _, _, rfl, rfl⟩, fun s'' Su => ?_⟩
        have F7 := gfr_wake ge hg0 (fun y d h => sgc_cases h) F6 hPL Su
        refine hkk _ _ ?_
        exact next false P _ _ (.refl fun b q => Su.low b (.inr q)) (by rw [← qe] at F7; exact F7) fun b o hb hpb e => Su.kp b o hpb (x6.keep b o (x5.keep b o (x4.keep b o e)))
end
end Mine
end

noncomputable section
open PySem PyProof.Rows
open PySem.W.X (SegX)
set_option Elab.async false
set_option linter.all false
set_option autoImplicit false
set_option maxRecDepth 100000
namespace Mine

section
variable {G : Glo} {A : Around} {s₀ : Shared} {W : Addr → Prop} {g : Nat} {genv : Env} {k : Nat}

theorem sg_cases {x : Str} {pv : Int} {esc : Bool} {y : Str} {d : PV} (h : (sg x pv esc).lookup y = some d) : scal d = true ∧ gSc.names.lookup y = some .local := sgc_cases (c := 0) (sgc_sub y d h)

theorem g_tail (R : Room (k + 1) A) (ge : GEnv genv) (hg0 : s₀.gens[g]? = none) {x : Str} : ∀ pv esc P0 sr P s, Since P0 P sr s → GFr G s₀ W genv P (sg x pv esc) s → P genv.locals →
    SegX G.M A.in1 (.func gBody genv) ((execs (gBody.drop 3) genv).wrap (fun f => .pure (.done (.ret (match f with | .ret v => v | _ => .none)))) (fun e => (leaving genv e).wrap (fun _ => .raise e) .raise id id) id id) [] s
      (EndL G A s₀ W g (if esc = true then [upv pv [92]] else []) P0 sr) := by
  intro pv esc P0 sr P s S F hPL
  have RR : Room k (A.in1.over (.func gBody genv) []) := room_func R
  have hco : genv.scope.isCoroutine = false := by rw [ge.sc]; rfl
  have hia : interactive genv = false := by unfold interactive; rw [ge.sc]; rfl
  refine x_execs_cons (x_If (wpAny_mono (semB_plain (sem_nameT m_escape (by decide +kernel)) (b := esc) rfl (fun _ _ => rfl) _ _ _ _ _ _ RR ge.sc F.toFrame) (fun b s₄ q => ?_) fun _ _ q => q))
  obtain ⟨rfl, x4⟩ := q
  have F4 := F.more x4
  have S4 : Since P0 P sr s₄ := S.trans (.ofExt x4 fun b q => F.low b (.inr q))
  cases b with
  | true =>
    simp only [if_true]
    refine x_execs_cons (x_Yield rfl rfl rfl (wpAny_mono (sem_tuple (ds := [.int pv, .str ⟨#[92]⟩]) (semEs_cons rfl (sem_name m_pos (by decide +kernel) (by intro h; cases h)) (semEs_cons rfl (back_str ▸ sem_str) semEs_nil)) (by simp) _ _ _ _ _ _ RR ge.sc F4.toFrame) (fun v s₅ q => ?_) fun _ _ q => q) hco hia)
    obtain ⟨x5, rv⟩ := q
    have F5 := F4.more x5
    intro l kk pp hkk
    refine ⟨P, S4.trans (.ofExt x5 fun b q => F4.low b (.inr q)), rv, ?_⟩
    rw [goesL_iff]
    refine ⟨_, _, _, .inr ⟨_, _, _, _, rfl, rfl⟩, fun s'' Su => ?_⟩
    refine hkk _ _ ?_
    exact x_end (.ok (.ret .none)) ⟨rfl, P, .refl fun b q => Su.low b (.inr q)⟩
  | false =>
    simp only [Bool.false_eq_true, if_false]
    exact x_end (.ok (.ret .none)) ⟨rfl, P, S4⟩

theorem s1_pos {x : Str} : put [("addr", .str x)] "pos" (.int 0) = ([("addr", .str x), ("pos", .int 0)] : Sig) := by kernel_rfl
theorem s1_escape {x : Str} : put [("addr", .str x), ("pos", .int 0)] "escape" (.bool false) = sg x 0 false := by kernel_rfl
theorem ok_pos : okName gSc none "pos" := ⟨.inl gk_pos, nofun⟩

/- the whole body, from its start -/
theorem g_all (R : Room (k + 1) A) (ge : GEnv genv) (hg0 : s₀.gens[g]? = none) {x : Str} {P : Addr → Prop} {s : Shared} (F : GFr G s₀ W genv P [("addr", .str x)] s) (hPL : P genv.locals) (hP0 : ∀ b, P b → s₀.heap.get? b = none) (hPW : ∀ b, P b → ¬ W b) :
    SegX G.M A.in1 (.func gBody genv) (G.M.den (.func gBody genv)) [] s (EndL G A s₀ W g (units 0 false x.cps.toList) P s) := by
  have RR : Room k (A.in1.over (.func gBody genv) []) := room_func R
  refine x_func (x_execs_cons (x_stmt (wpAny_mono (semS_assign ok_pos sem_int (fun _ _ => rfl) _ _ _ _ _ _ _ RR ge.sc F) (fun f s₁ q => ?_) fun _ _ q => q)))
  obtain ⟨W1, mr1, F1, stp, e1, fo⟩ := q
  rcases stp with ⟨_, rfl, rfl⟩ | ⟨_, h2⟩
  rotate_left
  · exact absurd rfl h2
  cases f <;> first | exact fo.elim | skip
  rw [s1_pos] at F1
  refine x_execs_cons (x_stmt (wpAny_mono (semS_assign ok_escape sem_bool (fun _ _ => rfl) _ _ _ _ _ _ _ RR ge.sc F1) (fun f s₂ q => ?_) fun _ _ q => q))
  obtain ⟨W2, mr2, F2, stp, e2, fo⟩ := q
  rcases stp with ⟨_, rfl, rfl⟩ | ⟨_, h2⟩
  rotate_left
  · exact absurd rfl h2
  cases f <;> first | exact fo.elim | skip
  rw [s1_escape] at F2
  have S2 : Since P P s s₂ := (since_extS ge hPL F1 e1).trans (since_extS ge hPL F2 e2)
  refine x_execs_cons (x_For (fun _ => rfl) ?_)
  refine Call_ (load_builtin ge.sc F2.toFrame gk_enum (F2.toFrame.base.blt _ (by simp)) F2.toFrame.base.enumerate (by decide +kernel) (PyProof.Rows.callWith_type1 (args_cons (wpAny_mono (sem_name m_addr (by decide +kernel) (by intro h; cases h) _ _ _ _ _ _ RR ge.sc F2.toFrame) (fun v s₃ q => args_nil ?_) fun _ _ q => q) (starEach_plain rfl _ _)) (starEach_plain rfl _ _) rfl))
  obtain ⟨x3, r3⟩ := q
  obtain ⟨t, rfl⟩ := rep_str r3
  have F3 := F2.more x3
  have S3 : Since P P s s₃ := S2.trans (.ofExt x3 fun b q => F2.low b (.inr q))
  refine call_enumerate_str fun h' he hit hsz hk => ?_
  refine wpAny_pyIter_enum he ?_
  intro p
  have sI : s₃.heap.get? s₃.heap.objs.size = none := get_size _
  have sE : s₃.heap.get? (s₃.heap.objs.size + 1) = none := by
    cases q : s₃.heap.get? (s₃.heap.objs.size + 1) with
    | none => rfl
    | some o => exact absurd (Heap.lt_size q) (Nat.not_lt.mpr (Nat.le_succ _))
  generalize hI : s₃.heap.objs.size = I at he hit hsz sI sE ⊢
  generalize hE : I + 1 = E at he sE ⊢
  have hEI : E ≠ I := by rw [← hE]; exact Nat.succ_ne_self _
  obtain ⟨oL, eL⟩ := F3.low _ (.inr hPL)
  have hEL : E ≠ genv.locals := (ne_of_get eL sE).symm
  have hIL : I ≠ genv.locals := (ne_of_get eL sI).symm
  have x4 : Ext s₃ { s₃ with heap := h' } := ⟨hk, fun _ _ e => e, id, rfl⟩
  have fr0 : ∀ b, s₃.heap.get? b = none → s₀.heap.get? b = none := fun b q => by
    cases e : s₀.heap.get? b with
    | none => rfl
    | some o => have := F3.ext.keep _ _ e; rw [q] at this; cases this
  let P' : Addr → Prop := fun b => P b ∨ (b = E ∨ b = I)
  have new : ∀ b, b = E ∨ b = I → s₃.heap.get? b = none := fun b q => by rcases q with rfl | rfl <;> assumption
  have al : ∀ b, b = E ∨ b = I → ∃ o, h'.get? b = some o := fun b q => by
    rcases q with rfl | rfl
    · exact ⟨_, he⟩
    · obtain ⟨o, e, _⟩ := hit; exact ⟨o, e⟩
  have F4 : GFr G s₀ W genv P' (sg x 0 false) { s₃ with heap := h' } := by
    have := F3.toFrame.freshP x4 (P := fun b => b = E ∨ b = I) new al
    have e : (fun a => (W a ∨ P a) ∨ (a = E ∨ a = I)) = fun a => W a ∨ P' a := by funext a; simp only [P', or_assoc]
    rw [e] at this
    exact ⟨this, F3.hc, F3.hcell, fun _ q => q.elim, fun _ q => q.elim, fun _ => rfl⟩
  have S4 : Since P P' s { s₃ with heap := h' } := S3.trans ⟨fun b o _ e => hk b o e, fun _ _ e => e, id, rfl, fun b q => q.imp id (new b), fun b q => F4.low b (.inr q)⟩
  refine g_loop (x := x) (t := t) R ge hg0 (fun pv esc P0 sr P s S F hP => g_tail R ge hg0 pv esc P0 sr P s S F hP) hEI hEL hIL _ 0 false 0 P s P' _ .none rfl (Nat.zero_le _) (fun h => absurd h (Nat.lt_irrefl _)) nofun S4 F4 (.inl hPL) (.inr (.inl rfl)) (.inr (.inr rfl)) (fun b q => ?_) (fun b q => ?_) he hit
  · rcases q with q | q
    · exact hP0 b q
    · exact fr0 b (new b q)
  · rcases q with q | q
    · exact hPW b q
    · intro hw
      obtain ⟨o, e⟩ := F3.low b (.inl hw)
      rw [new b q] at e; cases e
end
end Mine
end

noncomputable section
open PySem PyProof.Rows
open PySem.W.X (SegX)
set_option Elab.async false
set_option linter.all false
set_option autoImplicit false
set_option maxRecDepth 100000
namespace Mine
section
variable {G : Glo} {k : Nat} {sc : Scope} {mv : Option Str} {σ : Sig}

theorem g_nocell : ∀ y ∈ gSc.names, y.2 ≠ NameKind.cell := by
  have : (gSc.names.all fun y => y.2 != NameKind.cell) = true := by decide +kernel
  intro y hy
  simpa using List.all_eq_true.mp this y hy

theorem one_lookup {a y : Str} {p d : PV} (h : ([(a, p)] : Sig).lookup y = some d) : y = a ∧ d = p := by
  rw [List.lookup] at h
  split at h
  · rename_i e; exact ⟨by simpa using e, (Option.some.inj h).symm⟩
  · cases h

theorem semD_gen {e : Expr} {p p' : Pos} {x : Str} (hk : sc.names.lookup ("_iter_escaped_chars" : Str) = some .globalImplicit) (hfn : G.fns.lookup ("_iter_escaped_chars" : Str) = some (defAt 1)) (hn : notStarred e = true) (he : SemE G (k + 1) sc mv σ e (.str x)) :
    SemD G (k + 1) sc mv σ (.Call (.Name "_iter_escaped_chars" p') [e] [] p) (units 0 false x.cps.toList) := fun A s₀ s env W mr R hs F => by
  obtain ⟨a, o, pm, cd, doc, h1, h2, h3, h4⟩ := F.base.fn _ _ hfn
  have hroom : A.depth < recursionLimit := by have := R.depth; (first | lia | omega)
  refine Call_ (Calls.Name_function_global F.fk (by unfold Env.kindOf; rw [hs]; exact hk) (Calls.loadGlobal_global (by rw [F.gl]; exact F.base.g) h1 ?_) (by decide +kernel))
  refine Calls.callWith_function (o := o) (fd := _) (spliced_any (by simpa using hn) (wpAny_mono (semEs_cons hn he semEs_nil A s₀ s env W mr p R hs F) (fun vs s₁ p₁ => ⟨⟨p₁.1.keep _ _ h2, h3⟩, ?_⟩) fun _ _ x => x))
  obtain ⟨x1, rs⟩ := p₁
  obtain ⟨v₁, ws, rfl, rv, rs⟩ := rs.cons_inv
  obtain rfl := rs.nil_inv
  obtain ⟨t, rfl⟩ := rep_str rv
  have F1 := F.more x1
  refine wpAny_call (codeAny_call_generator (body := gBody) hroom (x1.keep _ _ h2) h3 rfl rfl rfl (h4.keeps x1.keep) ?_)
  refine wpAny_of_eq (a := ([("addr", Value.str x t)] : List (Str × Value))) (by rfl) ?_
  refine wpAny_newFunctionEnv g_nocell (by intro y hy; simp at hy; subst hy; exact gk_addr) (fun h' hns hsb => ?_) rfl
  refine ⟨(F1.base.nolimit).keeps fun b o e => hsb.extBut b o (ne_of_get e (get_size _)) (Heap.get?_push_of_some _ e), ?_⟩
  generalize hL : s₁.heap.objs.size = L at hns hsb ⊢
  have sL : s₁.heap.get? L = none := by rw [← hL]; exact get_size _
  have k2 : ∀ b o, s₁.heap.get? b = some o → h'.get? b = some o := fun b o e => hsb.extBut b o (ne_of_get e sL) (Heap.get?_push_of_some _ e)
  dsimp only
  generalize hh2 : h'.push { cls := .type "generator", data := .fields #[.int s₁.gens.size 0, .str (Calls.docDef "_iter_escaped_chars" (defAt 1).1 (defAt 1).2.1 (defAt 1).2.2 pm cd doc).name _, .str (Calls.docDef "_iter_escaped_chars" (defAt 1).1 (defAt 1).2.1 (defAt 1).2.2 pm cd doc).qualname _] } = h₂
  generalize hge : newEnv _ L _ _ _ (some a) _ none _ = genv
  have ge : GEnv genv := ⟨by rw [← hge]; rfl, by rw [← hge]; rfl⟩
  have gl : genv.locals = L := by rw [← hge]; rfl
  have ggl : genv.globals = mainGlobals := by rw [← hge]; rfl
  have gbl : genv.builtins = builtinsNs := by rw [← hge]; rfl
  have kh : ∀ b o, h'.get? b = some o → h₂.get? b = some o := fun b o e => by rw [← hh2]; exact Heap.get?_push_of_some _ e
  have ha : h'.get? h'.objs.size = none := get_size _
  have hga : h₂.IsGen h'.objs.size s₁.gens.size := by rw [← hh2]; exact ⟨_, _, _, Heap.get?_push_size _ rfl, rfl, rfl, rfl⟩
  generalize hs2 : ({ heap := h₂, gens := s₁.gens.push (.fresh (.func gBody genv)), drawn := s₁.drawn, toks := s₁.toks + [(Str.ofString "addr", Value.str x t)].length + 1 + 1, os := s₁.os } : Shared) = s₂
  have e2 : s₂.heap = h₂ := by rw [← hs2]
  have x2 : Ext s₁ s₂ := by
    rw [← hs2]
    refine ⟨fun b o e => kh b o (k2 b o e), fun i y e => ?_, fun q => q.push rfl, rfl⟩
    have hi := (Array.getElem?_eq_some_iff.mp e).1
    show (s₁.gens.push _)[i]? = some y
    rw [Array.getElem?_push_lt hi, ← Array.getElem?_eq_getElem hi]; exact e
  have hgs : s₂.gens[s₁.gens.size]? = some (.fresh (.func gBody genv)) := by rw [← hs2]; exact Array.getElem?_push_size ..
  have sg0 : s.gens[s₁.gens.size]? = none := x1.backG (Array.getElem?_eq_none (Nat.le_refl _))
  have s0g : s₀.gens[s₁.gens.size]? = none := F.ext.backG sg0
  have ssL : s.heap.get? L = none := x1.back sL
  have s0L : s₀.heap.get? L = none := F.ext.back ssL
  obtain ⟨oL, hoL⟩ : ∃ o, h'.get? L = some o := by obtain ⟨o, _, _, e, _⟩ := hns; exact ⟨o, e⟩
  have aL : h'.objs.size ≠ L := (ne_of_get hoL ha).symm
  have lowW : ∀ b, W b → ∃ o, h'.get? b = some o := fun b q => by obtain ⟨o, e⟩ := F1.low b q; exact ⟨o, k2 b o e⟩
  have offL : ∀ b, b = L → ¬ W b := fun b q hw => by obtain ⟨o, e⟩ := F1.low b hw; rw [q, sL] at e; cases e
  have xs2 := x1.trans x2
  have FG : GFr G s₀ W genv (fun b => b = L) [("addr", .str x)] s₂ := by
    refine ⟨{ base₀ := F.base₀, ext := F.ext.trans xs2, bare := xs2.bare F.bare, fk := by rw [ge.sc]; rfl, gl := ggl, bl := gbl, low := ?_, wl := .inr gl, wc := fun y c e => by rw [ge.cells] at e; simp at e, hi := by rw [gl]; exact s0L, ns := ?_, cl := fun y c e => by rw [ge.cells] at e; simp at e, kd := ?_, apart := fun y z c e => by rw [ge.cells] at e; simp at e, mu := fun _ e => nomatch e },
      fun y c e => by rw [ge.cells] at e; simp at e, fun y e => ?_, fun _ q => q.elim, fun _ q => q.elim, fun _ => rfl⟩
    · rintro b (q | q)
      · obtain ⟨o, e⟩ := lowW b q; exact ⟨o, by rw [e2]; exact kh b o e⟩
      · rw [q]; exact ⟨oL, by rw [e2]; exact kh _ _ hoL⟩
    · refine ⟨_, by rw [gl, e2]; exact hns.keeps kh, fun y d e ky => ?_⟩
      obtain ⟨ey, ed⟩ := one_lookup e
      rw [ey, ed]
      exact ⟨.str x t, rfl, .inl ⟨nofun, .str _ _⟩⟩
    · intro y d e
      rw [(one_lookup e).1]; exact .inl (by unfold Env.kindOf; rw [ge.sc]; exact gk_addr)
    · exfalso
      unfold Env.kindOf at e
      rw [ge.sc] at e
      exact g_nocell _ (lookup_mem e) rfl
  refine wpAny_pyIter_gen (by rw [e2]; exact hga) ?_
  refine ⟨fun b => b = L, s₁.gens.size, _, xs2, fun b q => ?_, sg0, iterD_gen R.hd hroom F.base₀, by rw [e2]; exact hga, aL, fun q => ?_, offL, _, hgs, ?_⟩
  · rw [q]; exact ⟨ssL, oL, by rw [e2]; exact kh _ _ hoL⟩
  · obtain ⟨o, e⟩ := lowW _ q; rw [ha] at e; cases e
  · rw [goesL_iff]
    refine ⟨_, _, _, .inl ⟨rfl, rfl, rfl⟩, fun s'' Su => ?_⟩
    refine g_all R ge s0g (gfr_wake ge s0g (fun y d e => ?_) FG gl Su) gl (fun b q => q ▸ s0L) offL
    obtain ⟨ey, ed⟩ := one_lookup e
    rw [ey, ed]; exact ⟨rfl, gk_addr⟩
end
end Mine
end

noncomputable section
open PySem PyProof.Rows
set_option Elab.async false
set_option linter.all false
set_option autoImplicit false
set_option maxRecDepth 100000
namespace Mine
section
variable {G : Glo} {k : Nat} {sc : Scope} {mv mv' : Option Str} {σ σ' σ'' : Sig}

theorem nm {x : Str} {d : PV} {p : Pos} (hx : σ.lookup x = some d := by exact rfl) (hd : (x == ("__debug__" : Str)) = false := by decide +kernel) (hm : mv ≠ some x := by decide +kernel) : SemE G k sc mv σ (.Name x p) d := sem_name hx hd hm
theorem nmT {x : Str} {d : PV} {p : Pos} (hx : σ.lookup x = some d := by exact rfl) (hd : (x == ("__debug__" : Str)) = false := by decide +kernel) : SemT G k sc mv σ (.Name x p) d := sem_nameT hx hd

theorem SemSs.weaken {b : List Stmt} {fl : PFlow} (h : SemSs G k sc mv σ b mv' σ' fl) (hs : ∀ x d, σ''.lookup x = some d → σ'.lookup x = some d) : SemSs G k sc mv σ b mv' σ'' fl := fun A s₀ W₀ s env W mr R hsc F =>
  wpAny_mono (h A s₀ W₀ s env W mr R hsc F) (fun f s' q => by
    obtain ⟨W', mr', F', h1, x, fl⟩ := q
    exact ⟨W', mr', F'.of (F'.toFrame.forget hs), h1, x, fl⟩) fun _ _ q => q
theorem SemS.weaken {b : Stmt} {fl : PFlow} (h : SemS G k sc mv σ b mv' σ' fl) (hs : ∀ x d, σ''.lookup x = some d → σ'.lookup x = some d) : SemS G k sc mv σ b mv' σ'' fl := fun A s₀ W₀ s env W mr R hsc F =>
  wpAny_mono (h A s₀ W₀ s env W mr R hsc F) (fun f s' q => by
    obtain ⟨W', mr', F', h1, x, fl⟩ := q
    exact ⟨W', mr', F'.of (F'.toFrame.forget hs), h1, x, fl⟩) fun _ _ q => q
theorem SemSs.forget {b : List Stmt} {fl : PFlow} (h : SemSs G k sc mv σ' b mv' σ'' fl) (hs : ∀ x d, σ'.lookup x = some d → σ.lookup x = some d) : SemSs G k sc mv σ b mv' σ'' fl := fun A s₀ W₀ s env W mr R hsc F =>
  h A s₀ W₀ s env W mr R hsc (F.of (F.toFrame.forget hs))
theorem sub_append (τ : Sig) : ∀ (σ : Sig) (x : Str) (d : PV), σ.lookup x = some d → (σ ++ τ).lookup x = some d
  | [], x, d, h => by simp at h
  | (y, e) :: r, x, d, h => by
    rw [List.cons_append]
    by_cases hx : x = y
    · subst hx; simp [List.lookup] at h ⊢; exact h
    · have : (x == y) = false := by simpa using hx
      rw [List.lookup, this] at h ⊢
      exact sub_append τ r x d h

theorem semSs_one {st : Stmt} {fl : PFlow} (h : SemS G k sc mv σ st mv' σ' fl) : SemSs G k sc mv σ [st] mv' σ' fl := by
  cases fl with
  | next => exact semSs_cons h semSs_nil
  | ret d => exact semSs_ret h
theorem semSs_consE {st : Stmt} {rest : List Stmt} {σ₁ : Sig} {mv'' : Option Str} {fl : PFlow} (h : SemS G k sc mv σ st mv' σ' .next) (e : σ' = σ₁) (hr : SemSs G k sc mv' σ₁ rest mv'' σ'' fl) : SemSs G k sc mv σ (st :: rest) mv'' σ'' fl := by
  subst e; exact semSs_cons h hr
theorem SemS.eq {st : Stmt} {fl : PFlow} (h : SemS G k sc mv σ st mv' σ' fl) (e : σ' = σ'') : SemS G k sc mv σ st mv' σ'' fl := e ▸ h
end

theorem callOK_ex {G : Glo} {k : Nat} {f : Str} {params : Arguments} {body : List Stmt} {sc : Scope} {ns : List Str} {ds : List PV} {d : PV} (hfn : G.fns.lookup f = some (params, body, sc))
    (hb : ∀ (pm cd doc : Value) (vs : List Value), vs.length = ns.length → bindArgs (Calls.docDef f params body sc pm cd doc) ⟨vs, []⟩ = pure (ns.zip vs)) (hnd : ns.Nodup) (hlen : ns.length = ds.length)
    (hk : sc.kind = .function) (hco : sc.isCoroutine = false) (hgen : sc.isGenerator = false) (hkd : ∀ x ∈ ns, sc.names.lookup x = some .local ∨ sc.names.lookup x = some .cell)
    (h : ∃ mv' σ', SemSs G k sc none (ns.zip ds) body mv' σ' (.ret d)) : CallOK G (k + 1) f ds d := by
  obtain ⟨mv', σ', h⟩ := h
  exact callOK_of hfn hb hnd hlen hk hco hgen hkd h

/- the units, plain -/
noncomputable def unitsL : Nat → Bool → List Nat → List (Int × List Nat)
  | i, true, [] => [((i : Int) - 1, [92])]
  | _, false, [] => []
  | i, true, c :: r => ((i : Int), [92, c]) :: unitsL (i + 1) false r
  | i, false, c :: r => if c = 92 then unitsL (i + 1) true r else ((i : Int), [c]) :: unitsL (i + 1) false r
noncomputable def upu (u : Int × List Nat) : PV := upv u.1 u.2
theorem units_eq : ∀ (l : List Nat) (i : Nat) (b : Bool), units i b l = (unitsL i b l).map upu
  | [], i, true => rfl
  | [], i, false => rfl
  | c :: r, i, true => by simp only [units, unitsL, List.map_cons, units_eq r]; rfl
  | c :: r, i, false => by
    simp only [units, unitsL]
    split
    · exact units_eq r _ _
    · simp only [List.map_cons, units_eq r]; rfl
end Mine
end

noncomputable section
set_option linter.all false
set_option autoImplicit false
namespace Mine

inductive T where
  | o | c
  | sg (i : Nat)
  | th (i : Nat)
  deriving DecidableEq

inductive R where
  | leaf (i : Nat)
  | sign (i : Nat)
  deriving DecidableEq

noncomputable def balD : Nat → List T → Bool
  | 0, [] => true
  | _ + 1, [] => false
  | d, .o :: r => balD (d + 1) r
  | 0, .c :: _ => false
  | d + 1, .c :: r => balD d r
  | d, .sg _ :: r => balD d r
  | d, .th _ :: r => balD d r
noncomputable def bal (l : List T) : Bool := balD 0 l

structure Part where
  ps : List T
  st : Option Nat
  row : List R

noncomputable def bracket (b : Bool) (l : List T) : List T := if b then T.o :: (l ++ [T.c]) else l

/- what the strengths of the signs say: which of two neighbours is to stand in brackets, how many stronger kinds there are -/
structure Par where
  bl : Nat → Nat → Bool
  br : Nat → Nat → Bool
  lev : Nat → Nat
  most : Nat
  r6 : Nat → Bool

noncomputable def optB (f : Nat → Nat → Bool) (a : Option Nat) (k : Nat) : Bool := match a with
  | none => false
  | some i => f i k

noncomputable def joinP (P : Par) (k : Nat) (a b : Part) : Part :=
  ⟨bracket (optB P.bl a.st k) a.ps ++ [T.sg k] ++ bracket (optB P.br b.st k) b.ps, some k, a.row ++ b.row ++ [R.sign k]⟩
noncomputable def formStep (P : Par) (k p : Nat) (parts : List Part) : Option (List Part) := match parts[p]?, parts[p + 1]? with
  | some a, some b => some ((parts.eraseIdx (p + 1)).set p (joinP P k a b))
  | _, _ => none
noncomputable def parts0 (n : Nat) : List Part := (List.range n).map fun i => ⟨[T.th i], none, [R.leaf i]⟩
noncomputable def formRun (P : Par) : Nat → List Nat → List Part → Option (List Part)
  | _, [], l => some l
  | k, p :: ps, l => (formStep P k p l).bind (formRun P (k + 1) ps)

noncomputable def dressOne (P : Par) : T → List T
  | .o => List.replicate (P.most + 1) T.o
  | .c => List.replicate (P.most + 1) T.c
  | .sg k => List.replicate (P.lev k) T.c ++ T.sg k :: List.replicate (P.lev k) T.o
  | .th i => [T.th i]
noncomputable def dressT (P : Par) (ts : List T) : List T := List.replicate P.most T.o ++ ts.flatMap (dressOne P) ++ List.replicate P.most T.c

noncomputable def stripQ (ts : List T) : Option (List T) := match ts with
  | .o :: r => match r.getLast? with
    | some .c => if bal r.dropLast then some r.dropLast else none
    | _ => none
  | _ => none
noncomputable def stripN : Nat → List T → Option (List T)
  | 0, _ => none
  | n + 1, ts => match stripQ ts with
    | none => some ts
    | some ts' => stripN n ts'

noncomputable def topsT : List T → List T → List (List T × Nat × List T)
  | _, [] => []
  | pre, .sg k :: r => (if !pre.isEmpty && bal pre then [(pre, k, r)] else []) ++ topsT (pre ++ [T.sg k]) r
  | pre, t :: r => topsT (pre ++ [t]) r
noncomputable def choose (P : Par) (x : List T × Nat × List T) (l : List (List T × Nat × List T)) : List T × Nat × List T := if P.r6 x.2.1 then x else (x :: l).getLast (by simp)
noncomputable def readT (P : Par) : Nat → List T → Option (List R)
  | 0, _ => none
  | f + 1, ts => match stripN 8 ts with
    | none => none
    | some ts' => match topsT [] ts' with
      | [] => match ts' with
        | [.th i] => some [.leaf i]
        | _ => none
      | x :: l => match readT P f (choose P x l).1, readT P f (choose P x l).2.2 with
        | some a, some b => some (a ++ b ++ [R.sign (choose P x l).2.1])
        | _, _ => none

noncomputable def closeAt : Nat → Nat → List T → Option Nat
  | _, _, [] => none
  | d, i, .o :: r => closeAt (d + 1) (i + 1) r
  | 0, i, .c :: _ => none
  | 1, i, .c :: _ => some i
  | d + 2, i, .c :: r => closeAt (d + 1) (i + 1) r
  | d, i, _ :: r => closeAt d (i + 1) r
noncomputable def withoutT (ps : List T) (first : Nat) : Option (List T) := (closeAt 1 (first + 1) (ps.drop (first + 1))).map fun last => ps.take first ++ ((ps.take last).drop (first + 1) ++ ps.drop (last + 1))

noncomputable def isLeaf : R → Bool
  | .leaf _ => true
  | .sign _ => false

/- no sign stands next to a sign -/
noncomputable def apartT : List T → Bool
  | .sg _ :: .sg _ :: _ => false
  | _ :: r => apartT r
  | [] => true
/- the signs 0 .. n - 1 stand in it, and no other -/
noncomputable def sgsOf : List T → List Nat
  | [] => []
  | .sg i :: r => i :: sgsOf r
  | _ :: r => sgsOf r
noncomputable def sgOK (n : Nat) (ps : List T) : Bool := (List.range n).all (fun i => (sgsOf ps).contains i) && (sgsOf ps).all (fun i => decide (i < n))

noncomputable def chk (P : Par) (places : List Nat) : Bool := match formRun P 0 places (parts0 (places.length + 1)) with
  | some [⟨ps, _, due⟩] => sgOK places.length ps && apartT (dressT P ps) && bal ps && bal (dressT P ps) && decide ((dressT P ps).length ≤ 100) && decide (ps.length ≤ 100) && (readT P 4 (dressT P ps) == some due) &&
    (List.range ps.length).all fun q => if ps[q]? = some T.o then (match withoutT ps q with
      | some sp => decide (sp.length ≤ 100) && sgOK places.length sp && apartT (dressT P sp) && decide ((dressT P sp).length ≤ 100) && bal (dressT P sp) && (match readT P 4 (dressT P sp) with
        | some r => r.map isLeaf != due.map isLeaf
        | none => false)
      | none => false) else true
  | _ => false

/- the strengths' words -/
noncomputable def tri {α : Type} (a b c d : α) : Nat → α
  | 0 => a | 1 => b | 2 => c | _ => d
structure ParD where
  bl : List Bool
  br : List Bool
  lev : List Nat
  most : Nat
  r6 : List Bool
  deriving DecidableEq
noncomputable def at01 (l : List Bool) (i k : Nat) : Bool := match i, k, l with
  | 0, 1, [a, _, _] => a
  | 0, 2, [_, b, _] => b
  | 1, 2, [_, _, c] => c
  | _, _, _ => false
noncomputable def ParD.par (D : ParD) : Par where
  bl := at01 D.bl
  br := at01 D.br
  lev := fun k => D.lev.getD k 0
  most := D.most
  r6 := fun k => D.r6.getD k false
noncomputable def thereS (l : List Nat) : List Nat := (List.range 7).filter fun s => l.contains s
noncomputable def needL (a b : Nat) : Bool := decide (a < b) || (a == b && b == 6)
noncomputable def needR (a b : Nat) : Bool := decide (a < b) || (a == b && b != 6)
noncomputable def parOf3 (a b c : Nat) : ParD where
  bl := [needL a b, needL a c, needL b c]
  br := [needR a b, needR a c, needR b c]
  most := (thereS [a, b, c]).length - 1
  lev := [a, b, c].map fun s => (thereS [a, b, c]).length - 1 - (thereS [a, b, c]).idxOf s
  r6 := [a == 6, b == 6, c == 6]
noncomputable def parOf2 (a b : Nat) : ParD where
  bl := [needL a b, false, false]
  br := [needR a b, false, false]
  most := (thereS [a, b]).length - 1
  lev := [a, b].map fun s => (thereS [a, b]).length - 1 - (thereS [a, b]).idxOf s
  r6 := [a == 6, b == 6]
end Mine
end

noncomputable section
set_option linter.all false
set_option autoImplicit false
set_option Elab.async false
set_option maxRecDepth 100000
namespace Mine
noncomputable def B3 : List ParD := [
  ⟨[false, false, false], [true, true, true], [0, 0, 0], 0, [false, false, false]⟩,
  ⟨[false, true, true], [true, true, true], [1, 1, 0], 1, [false, false, false]⟩,
  ⟨[false, true, true], [true, true, true], [1, 1, 0], 1, [false, false, true]⟩,
  ⟨[true, false, false], [true, true, false], [1, 0, 1], 1, [false, false, false]⟩,
  ⟨[true, true, false], [true, true, true], [1, 0, 0], 1, [false, false, false]⟩,
  ⟨[true, true, true], [true, true, true], [2, 1, 0], 2, [false, false, false]⟩,
  ⟨[true, true, true], [true, true, true], [2, 1, 0], 2, [false, false, true]⟩,
  ⟨[true, true, false], [true, true, false], [2, 0, 1], 2, [false, false, false]⟩,
  ⟨[true, false, false], [true, true, false], [1, 0, 1], 1, [false, true, false]⟩,
  ⟨[true, true, false], [true, true, false], [2, 0, 1], 2, [false, true, false]⟩,
  ⟨[true, true, true], [true, true, false], [1, 0, 0], 1, [false, true, true]⟩,
  ⟨[false, false, false], [false, false, true], [0, 1, 1], 1, [false, false, false]⟩,
  ⟨[false, false, true], [false, true, true], [0, 1, 0], 1, [false, false, false]⟩,
  ⟨[false, true, true], [false, true, true], [1, 2, 0], 2, [false, false, false]⟩,
  ⟨[false, true, true], [false, true, true], [1, 2, 0], 2, [false, false, true]⟩,
  ⟨[false, false, false], [true, false, false], [0, 0, 1], 1, [false, false, false]⟩,
  ⟨[true, false, false], [true, false, false], [1, 0, 2], 2, [false, false, false]⟩,
  ⟨[true, false, false], [true, false, false], [1, 0, 2], 2, [false, true, false]⟩,
  ⟨[false, false, true], [false, false, true], [0, 2, 1], 2, [false, false, false]⟩,
  ⟨[false, false, false], [false, false, false], [0, 1, 2], 2, [false, false, false]⟩,
  ⟨[false, false, false], [false, false, true], [0, 1, 1], 1, [true, false, false]⟩,
  ⟨[false, false, true], [false, false, true], [0, 2, 1], 2, [true, false, false]⟩,
  ⟨[false, true, true], [false, false, true], [0, 1, 0], 1, [true, false, true]⟩,
  ⟨[false, false, false], [false, false, false], [0, 1, 2], 2, [true, false, false]⟩,
  ⟨[true, false, false], [false, false, false], [0, 0, 1], 1, [true, true, false]⟩,
  ⟨[true, true, true], [false, false, false], [0, 0, 0], 0, [true, true, true]⟩]
noncomputable def B2 : List ParD := [
  ⟨[false, false, false], [true, false, false], [0, 0], 0, [false, false]⟩,
  ⟨[true, false, false], [true, false, false], [1, 0], 1, [false, false]⟩,
  ⟨[true, false, false], [true, false, false], [1, 0], 1, [false, true]⟩,
  ⟨[false, false, false], [false, false, false], [0, 1], 1, [false, false]⟩,
  ⟨[false, false, false], [false, false, false], [0, 1], 1, [true, false]⟩,
  ⟨[true, false, false], [false, false, false], [0, 0], 0, [true, true]⟩]
theorem par3_0 : ∀ b, b < 7 → ∀ c, c < 7 → parOf3 0 b c ∈ B3 := by decide +kernel
theorem par3_1 : ∀ b, b < 7 → ∀ c, c < 7 → parOf3 1 b c ∈ B3 := by decide +kernel
theorem par3_2 : ∀ b, b < 7 → ∀ c, c < 7 → parOf3 2 b c ∈ B3 := by decide +kernel
theorem par3_3 : ∀ b, b < 7 → ∀ c, c < 7 → parOf3 3 b c ∈ B3 := by decide +kernel
theorem par3_4 : ∀ b, b < 7 → ∀ c, c < 7 → parOf3 4 b c ∈ B3 := by decide +kernel
theorem par3_5 : ∀ b, b < 7 → ∀ c, c < 7 → parOf3 5 b c ∈ B3 := by decide +kernel
theorem par3_6 : ∀ b, b < 7 → ∀ c, c < 7 → parOf3 6 b c ∈ B3 := by decide +kernel
theorem par3 : ∀ a, a < 7 → ∀ b, b < 7 → ∀ c, c < 7 → parOf3 a b c ∈ B3 := by
  intro a ha
  match a, ha with
  | 0, _ => exact par3_0
  | 1, _ => exact par3_1
  | 2, _ => exact par3_2
  | 3, _ => exact par3_3
  | 4, _ => exact par3_4
  | 5, _ => exact par3_5
  | 6, _ => exact par3_6
theorem par2 : ∀ a, a < 7 → ∀ b, b < 7 → parOf2 a b ∈ B2 := by decide +kernel
theorem chk2 : ∀ D ∈ B2, ∀ p, p < 2 → chk D.par [p, 0] = true := by decide +kernel
theorem chk3_0 : ∀ p, p < 3 → ∀ q, q < 2 → chk (ParD.par ⟨[false, false, false], [true, true, true], [0, 0, 0], 0, [false, false, false]⟩) [p, q, 0] = true := by decide +kernel
theorem chk3_1 : ∀ p, p < 3 → ∀ q, q < 2 → chk (ParD.par ⟨[false, true, true], [true, true, true], [1, 1, 0], 1, [false, false, false]⟩) [p, q, 0] = true := by decide +kernel
theorem chk3_2 : ∀ p, p < 3 → ∀ q, q < 2 → chk (ParD.par ⟨[false, true, true], [true, true, true], [1, 1, 0], 1, [false, false, true]⟩) [p, q, 0] = true := by decide +kernel
theorem chk3_3 : ∀ p, p < 3 → ∀ q, q < 2 → chk (ParD.par ⟨[true, false, false], [true, true, false], [1, 0, 1], 1, [false, false, false]⟩) [p, q, 0] = true := by decide +kernel
theorem chk3_4 : ∀ p, p < 3 → ∀ q, q < 2 → chk (ParD.par ⟨[true, true, false], [true, true, true], [1, 0, 0], 1, [false, false, false]⟩) [p, q, 0] = true := by decide +kernel
theorem chk3_5 : ∀ p, p < 3 → ∀ q, q < 2 → chk (ParD.par ⟨[true, true, true], [true, true, true], [2, 1, 0], 2, [false, false, false]⟩) [p, q, 0] = true := by decide +kernel
theorem chk3_6 : ∀ p, p < 3 → ∀ q, q < 2 → chk (ParD.par ⟨[true, true, true], [true, true, true], [2, 1, 0], 2, [false, false, true]⟩) [p, q, 0] = true := by decide +kernel
theorem chk3_7 : ∀ p, p < 3 → ∀ q, q < 2 → chk (ParD.par ⟨[true, true, false], [true, true, false], [2, 0, 1], 2, [false, false, false]⟩) [p, q, 0] = true := by decide +kernel
theorem chk3_8 : ∀ p, p < 3 → ∀ q, q < 2 → chk (ParD.par ⟨[true, false, false], [true, true, false], [1, 0, 1], 1, [false, true, false]⟩) [p, q, 0] = true := by decide +kernel
theorem chk3_9 : ∀ p, p < 3 → ∀ q, q < 2 → chk (ParD.par ⟨[true, true, false], [true, true, false], [2, 0, 1], 2, [false, true, false]⟩) [p, q, 0] = true := by decide +kernel
theorem chk3_10 : ∀ p, p < 3 → ∀ q, q < 2 → chk (ParD.par ⟨[true, true, true], [true, true, false], [1, 0, 0], 1, [false, true, true]⟩) [p, q, 0] = true := by decide +kernel
theorem chk3_11 : ∀ p, p < 3 → ∀ q, q < 2 → chk (ParD.par ⟨[false, false, false], [false, false, true], [0, 1, 1], 1, [false, false, false]⟩) [p, q, 0] = true := by decide +kernel
theorem chk3_12 : ∀ p, p < 3 → ∀ q, q < 2 → chk (ParD.par ⟨[false, false, true], [false, true, true], [0, 1, 0], 1, [false, false, false]⟩) [p, q, 0] = true := by decide +kernel
theorem chk3_13 : ∀ p, p < 3 → ∀ q, q < 2 → chk (ParD.par ⟨[false, true, true], [false, true, true], [1, 2, 0], 2, [false, false, false]⟩) [p, q, 0] = true := by decide +kernel
theorem chk3_14 : ∀ p, p < 3 → ∀ q, q < 2 → chk (ParD.par ⟨[false, true, true], [false, true, true], [1, 2, 0], 2, [false, false, true]⟩) [p, q, 0] = true := by decide +kernel
theorem chk3_15 : ∀ p, p < 3 → ∀ q, q < 2 → chk (ParD.par ⟨[false, false, false], [true, false, false], [0, 0, 1], 1, [false, false, false]⟩) [p, q, 0] = true := by decide +kernel
theorem chk3_16 : ∀ p, p < 3 → ∀ q, q < 2 → chk (ParD.par ⟨[true, false, false], [true, false, false], [1, 0, 2], 2, [false, false, false]⟩) [p, q, 0] = true := by decide +kernel
theorem chk3_17 : ∀ p, p < 3 → ∀ q, q < 2 → chk (ParD.par ⟨[true, false, false], [true, false, false], [1, 0, 2], 2, [false, true, false]⟩) [p, q, 0] = true := by decide +kernel
theorem chk3_18 : ∀ p, p < 3 → ∀ q, q < 2 → chk (ParD.par ⟨[false, false, true], [false, false, true], [0, 2, 1], 2, [false, false, false]⟩) [p, q, 0] = true := by decide +kernel
theorem chk3_19 : ∀ p, p < 3 → ∀ q, q < 2 → chk (ParD.par ⟨[false, false, false], [false, false, false], [0, 1, 2], 2, [false, false, false]⟩) [p, q, 0] = true := by decide +kernel
theorem chk3_20 : ∀ p, p < 3 → ∀ q, q < 2 → chk (ParD.par ⟨[false, false, false], [false, false, true], [0, 1, 1], 1, [true, false, false]⟩) [p, q, 0] = true := by decide +kernel
theorem chk3_21 : ∀ p, p < 3 → ∀ q, q < 2 → chk (ParD.par ⟨[false, false, true], [false, false, true], [0, 2, 1], 2, [true, false, false]⟩) [p, q, 0] = true := by decide +kernel
theorem chk3_22 : ∀ p, p < 3 → ∀ q, q < 2 → chk (ParD.par ⟨[false, true, true], [false, false, true], [0, 1, 0], 1, [true, false, true]⟩) [p, q, 0] = true := by decide +kernel
theorem chk3_23 : ∀ p, p < 3 → ∀ q, q < 2 → chk (ParD.par ⟨[false, false, false], [false, false, false], [0, 1, 2], 2, [true, false, false]⟩) [p, q, 0] = true := by decide +kernel
theorem chk3_24 : ∀ p, p < 3 → ∀ q, q < 2 → chk (ParD.par ⟨[true, false, false], [false, false, false], [0, 0, 1], 1, [true, true, false]⟩) [p, q, 0] = true := by decide +kernel
theorem chk3_25 : ∀ p, p < 3 → ∀ q, q < 2 → chk (ParD.par ⟨[true, true, true], [false, false, false], [0, 0, 0], 0, [true, true, true]⟩) [p, q, 0] = true := by decide +kernel
theorem chk3 : ∀ D ∈ B3, ∀ p, p < 3 → ∀ q, q < 2 → chk D.par [p, q, 0] = true := by
  unfold B3
  refine List.forall_mem_cons.mpr ⟨chk3_0, ?_⟩
  refine List.forall_mem_cons.mpr ⟨chk3_1, ?_⟩
  refine List.forall_mem_cons.mpr ⟨chk3_2, ?_⟩
  refine List.forall_mem_cons.mpr ⟨chk3_3, ?_⟩
  refine List.forall_mem_cons.mpr ⟨chk3_4, ?_⟩
  refine List.forall_mem_cons.mpr ⟨chk3_5, ?_⟩
  refine List.forall_mem_cons.mpr ⟨chk3_6, ?_⟩
  refine List.forall_mem_cons.mpr ⟨chk3_7, ?_⟩
  refine List.forall_mem_cons.mpr ⟨chk3_8, ?_⟩
  refine List.forall_mem_cons.mpr ⟨chk3_9, ?_⟩
  refine List.forall_mem_cons.mpr ⟨chk3_10, ?_⟩
  refine List.forall_mem_cons.mpr ⟨chk3_11, ?_⟩
  refine List.forall_mem_cons.mpr ⟨chk3_12, ?_⟩
  refine List.forall_mem_cons.mpr ⟨chk3_13, ?_⟩
  refine List.forall_mem_cons.mpr ⟨chk3_14, ?_⟩
  refine List.forall_mem_cons.mpr ⟨chk3_15, ?_⟩
  refine List.forall_mem_cons.mpr ⟨chk3_16, ?_⟩
  refine List.forall_mem_cons.mpr ⟨chk3_17, ?_⟩
  refine List.forall_mem_cons.mpr ⟨chk3_18, ?_⟩
  refine List.forall_mem_cons.mpr ⟨chk3_19, ?_⟩
  refine List.forall_mem_cons.mpr ⟨chk3_20, ?_⟩
  refine List.forall_mem_cons.mpr ⟨chk3_21, ?_⟩
  refine List.forall_mem_cons.mpr ⟨chk3_22, ?_⟩
  refine List.forall_mem_cons.mpr ⟨chk3_23, ?_⟩
  refine List.forall_mem_cons.mpr ⟨chk3_24, ?_⟩
  refine List.forall_mem_cons.mpr ⟨chk3_25, ?_⟩
  exact fun D h => nomatch h
end Mine
end

noncomputable section
open PySem PyProof.Rows
set_option Elab.async false
set_option linter.all false
set_option autoImplicit false
namespace Mine

structure StripSt where
  start : Int
  op : Option Int
  res : List Str

noncomputable def popt : Option Int → PV
  | none => .none
  | some i => .int i

noncomputable def stripStep (x : Str) (st : StripSt) (u : Int × List Nat) : StripSt :=
  if u.2 = [34] then match st.op with
    | none => { st with op := some u.1 }
    | some o => ⟨u.1 + 1, none, if st.start ≠ o then st.res ++ [Txt.slice x (some st.start) (some o)] else st.res⟩
  else st
noncomputable def stripEnd (x : Str) (st : StripSt) : List Str := if st.start < x.length then st.res ++ [Txt.slice x (some st.start) none] else st.res
noncomputable def stripS (x : Str) : Str := if Txt.contains x ("\"" : Str) then Txt.join "" (stripEnd x ((unitsL 0 false x.cps.toList).foldl (stripStep x) ⟨0, none, []⟩)) else x


theorem filterMap_range {α : Type} (ds : List α) (a n : Nat) (h : a + n ≤ ds.length) : ((List.range n).map fun k => a + k).filterMap (ds[·]?) = (ds.drop a).take n := by
  induction n with
  | zero => simp
  | succ n ih =>
    rw [List.range_succ, List.map_append, List.filterMap_append, ih (by (first | lia | omega))]
    have h1 : a + n < ds.length := by (first | lia | omega)
    have e : (ds.drop a)[n]? = some ds[a + n] := by rw [List.getElem?_drop]; exact List.getElem?_eq_getElem h1
    rw [List.take_add_one, e]
    simp [h1]

theorem sliceRange_one (a b : Nat) : sliceRange (a : Int) (b : Int) 1 = (List.range (b - a)).map fun k => a + k := by
  unfold sliceRange
  simp only [show (1 : Int) > 0 by decide, if_true]
  have hc : (if (a : Int) < b then ((b : Int) - a + 1 - 1) / 1 else 0).toNat = b - a := by
    split
    · rw [Int.ediv_one]; (first | lia | omega)
    · rename_i h; (first | lia | omega)
  rw [hc]
  apply List.map_congr_left
  intro k _
  (first | lia | omega)

theorem pickN {α : Type} (ds : List α) (a b : Nat) (hb : b ≤ ds.length) : (sliceRange (a : Int) (b : Int) 1).filterMap (ds[·]?) = (ds.take b).drop a := by
  rw [sliceRange_one]
  by_cases h : a ≤ b
  · rw [filterMap_range ds _ _ (by (first | lia | omega)), List.drop_take]
  · rw [show b - a = 0 by (first | lia | omega), List.drop_eq_nil_of_le (by rw [List.length_take]; (first | lia | omega))]
    rfl
theorem take_min {α : Type} (ds : List α) (j : Nat) : ds.take (min j ds.length) = ds.take j := by
  rw [List.take_eq_take_iff]; (first | lia | omega)
theorem drop_min {α : Type} (ds : List α) (i : Nat) (l : List α) (h : l.length ≤ ds.length) : l.drop (min i ds.length) = l.drop i := by
  by_cases q : i ≤ ds.length
  · rw [Nat.min_eq_left q]
  · rw [List.drop_eq_nil_of_le (by (first | lia | omega)), List.drop_eq_nil_of_le (by (first | lia | omega))]

theorem clipN (i n : Nat) : max (0 : Int) (min (if (i : Int) < 0 then (i : Int) + n else i) n) = ((min i n : Nat) : Int) := by
  rw [if_neg (by (first | lia | omega))]; (first | lia | omega)

theorem pick_both {α : Type} (ds : List α) (i j : Nat) : pick ds (some i) (some j) none = (ds.take j).drop i := by
  have hb : sliceBounds (some i) (some j) none ds.length = (((min i ds.length : Nat) : Int), ((min j ds.length : Nat) : Int), 1) :=
    Prod.ext (clipN i _) (Prod.ext (clipN j _) rfl)
  unfold pick
  rw [hb]
  dsimp only
  rw [pickN ds _ _ (by (first | lia | omega)), take_min, drop_min ds i _ (by rw [List.length_take]; (first | lia | omega))]
theorem pick_from {α : Type} (ds : List α) (i : Nat) : pick ds (some i) none none = ds.drop i := by
  have hb : sliceBounds (some i) none none ds.length = (((min i ds.length : Nat) : Int), ((ds.length : Nat) : Int), 1) :=
    Prod.ext (clipN i _) rfl
  unfold pick
  rw [hb]
  dsimp only
  rw [pickN ds _ _ (by (first | lia | omega)), List.take_length, drop_min ds i _ (by (first | lia | omega))]
theorem pick_to {α : Type} (ds : List α) (j : Nat) : pick ds none (some j) none = ds.take j := by
  have hb : sliceBounds none (some j) none ds.length = (((0 : Nat) : Int), ((min j ds.length : Nat) : Int), 1) :=
    Prod.ext rfl (Prod.ext (clipN j _) rfl)
  unfold pick
  rw [hb]
  dsimp only
  rw [pickN ds _ _ (by (first | lia | omega)), take_min, List.drop_zero]

theorem txt_slice_eq (l : List Nat) (lo hi : Option Int) : Txt.slice ⟨l.toArray⟩ lo hi = ⟨(pick l lo hi none).toArray⟩ := by
  have e : Builtin.Str.strSliceIndices lo hi 1 l.length = sliceRange (sliceBounds lo hi none l.length).1 (sliceBounds lo hi none l.length).2.1 1 := by
    cases lo <;> cases hi <;> rfl
  have h2 : (fun i : Nat => (⟨l.toArray⟩ : Str).cps[i]?) = (fun i : Nat => l[i]?) := by funext i; simp
  unfold Txt.slice
  show (if ((1 : Int) == 1 && (Builtin.Str.strSliceIndices lo hi 1 l.toArray.size).length == l.toArray.size) = true then _ else (⟨((Builtin.Str.strSliceIndices lo hi 1 l.toArray.size).filterMap ((⟨l.toArray⟩ : Str).cps[·]?)).toArray⟩ : Str)) = _
  rw [h2, List.size_toArray]
  split
  · rename_i h
    have hlen : (Builtin.Str.strSliceIndices lo hi 1 l.length).length = l.length := by simpa using h
    have key : pick l lo hi none = l := by
      unfold pick
      have e' : (sliceBounds lo hi none l.length).2.2 = 1 := rfl
      rw [e']
      have hs : ∃ a b : Nat, b ≤ l.length ∧ (sliceBounds lo hi none l.length).1 = a ∧ (sliceBounds lo hi none l.length).2.1 = b := by
        have cl : ∀ (v : Option Int) (d : Nat), d ≤ l.length → ∃ a : Nat, a ≤ l.length ∧ ((match v with
          | none => (d : Int)
          | some i => max (0 : Int) (min (if i < 0 then i + l.length else i) l.length)) : Int) = (a : Int) := by
          intro v d hd
          cases v with
          | none => exact ⟨d, hd, rfl⟩
          | some i => exact ⟨(max (0 : Int) (min (if i < 0 then i + l.length else i) l.length)).toNat, by (first | lia | omega), by dsimp only; (first | lia | omega)⟩
        obtain ⟨a, _, ha⟩ := cl lo 0 (by (first | lia | omega))
        obtain ⟨b, hb, hb'⟩ := cl hi l.length (by (first | lia | omega))
        refine ⟨a, b, hb, ?_, ?_⟩
        · rw [← ha]; cases lo <;> rfl
        · rw [← hb']; cases hi <;> rfl
      obtain ⟨a, b, hb, h1, h2⟩ := hs
      rw [e, h1, h2, sliceRange_one, List.length_map, List.length_range] at hlen
      rw [h1, h2, pickN l a b hb]
      have : b = l.length := by (first | lia | omega)
      have ha : a = 0 ∨ l.length = 0 := by (first | lia | omega)
      subst this
      rcases ha with rfl | h0
      · simp
      · have : l = [] := List.eq_nil_of_length_eq_zero h0
        subst this; simp
    rw [key]
  · rw [e]
    unfold pick
    rfl
end Mine
end

noncomputable section
open PySem PyProof.Rows
set_option Elab.async false
set_option linter.all false
set_option autoImplicit false
set_option maxRecDepth 100000
namespace Mine

noncomputable def signTab : List (List Nat × Int × Nat) := [([124], 18, 0), ([94], 32, 1), ([38], 19, 2), ([60, 60], 33, 3), ([62, 62], 34, 3), ([43], 14, 4), ([45], 15, 4), ([42], 16, 5), ([47], 17, 5), ([37], 24, 5), ([47, 47], 47, 5), ([64], 49, 5), ([42, 42], 35, 6)]
noncomputable def thingTab : List (List Nat) := [[92, 92], [92, 40], [92, 41], [92, 34], [34, 40, 34], [34, 41, 34]]
noncomputable def signRow (j : Nat) : List Nat × Int × Nat := signTab.getD j ([124], 18, 0)
noncomputable def thingX (j : Nat) : List Nat := thingTab.getD j [92, 92]

/- which sign, which thing -/
structure Lab where
  sg : Nat → Nat
  th : Nat → Nat
  hs : ∀ i, sg i < 13
  ht : ∀ i, th i < 6

noncomputable def tx (L : Lab) : T → List Nat
  | .o => [40]
  | .c => [41]
  | .sg i => (signRow (L.sg i)).1
  | .th i => thingX (L.th i)
noncomputable def txs (L : Lab) (ts : List T) : List Nat := ts.flatMap (tx L)

theorem sign_plain : ∀ j, j < 13 → ∀ c ∈ (signRow j).1, c ≠ 92 ∧ c ≠ 34 ∧ c ≠ 40 ∧ c ≠ 41 := by decide +kernel

noncomputable def plainU : Nat → List Nat → List (Int × List Nat)
  | _, [] => []
  | i, c :: l => ((i : Int), [c]) :: plainU (i + 1) l
theorem units_plain : ∀ (l r : List Nat) (i : Nat), (∀ c ∈ l, c ≠ 92) → unitsL i false (l ++ r) = plainU i l ++ unitsL (i + l.length) false r
  | [], r, i, _ => by simp [plainU]
  | c :: l, r, i, h => by
    have hc := h c (List.mem_cons_self ..)
    rw [List.cons_append, unitsL, if_neg hc, units_plain l r (i + 1) fun d hd => h d (List.mem_cons_of_mem _ hd), plainU, List.cons_append, List.length_cons, show i + 1 + l.length = i + (l.length + 1) by (first | lia | omega)]

/- the units of one piece -/
noncomputable def unitsT (L : Lab) (i : Nat) (t : T) : List (Int × List Nat) := unitsL i false (tx L t)

theorem thing_cases {j : Nat} (h : j < 6) : (∃ c, thingX j = [92, c]) ∨ ∃ c, (c = 40 ∨ c = 41) ∧ thingX j = [34, c, 34] := by
  match j, h with
  | 0, _ => exact .inl ⟨92, rfl⟩
  | 1, _ => exact .inl ⟨40, rfl⟩
  | 2, _ => exact .inl ⟨41, rfl⟩
  | 3, _ => exact .inl ⟨34, rfl⟩
  | 4, _ => exact .inr ⟨40, .inl rfl, rfl⟩
  | 5, _ => exact .inr ⟨41, .inr rfl, rfl⟩

/- a piece is plain, or an escape, or in quotation marks -/
inductive Kind (L : Lab) : T → Prop
  | o : Kind L .o
  | c : Kind L .c
  | sg (i : Nat) : (∀ c ∈ tx L (.sg i), c ≠ 92 ∧ c ≠ 34 ∧ c ≠ 40 ∧ c ≠ 41) → Kind L (.sg i)
  | esc (i : Nat) (c : Nat) : tx L (.th i) = [92, c] → Kind L (.th i)
  | quo (i : Nat) (c : Nat) : (c = 40 ∨ c = 41) → tx L (.th i) = [34, c, 34] → Kind L (.th i)
theorem kind (L : Lab) (t : T) : Kind L t := by
  cases t with
  | o => exact .o
  | c => exact .c
  | sg i => exact .sg i (sign_plain _ (L.hs i))
  | th i =>
    rcases thing_cases (L.ht i) with ⟨c, h⟩ | ⟨c, h1, h2⟩
    · exact .esc i c h
    · exact .quo i c h1 h2

theorem units_esc (i c : Nat) (r : List Nat) : unitsL i false (92 :: c :: r) = (((i + 1 : Nat) : Int), [92, c]) :: unitsL (i + 2) false r := by
  rw [unitsL, if_pos rfl, unitsL]
theorem units_one (i c : Nat) (r : List Nat) (h : c ≠ 92) : unitsL i false (c :: r) = ((i : Int), [c]) :: unitsL (i + 1) false r := by
  rw [unitsL, if_neg h]

theorem units_piece (L : Lab) (t : T) (i : Nat) (r : List Nat) : unitsL i false (tx L t ++ r) = unitsT L i t ++ unitsL (i + (tx L t).length) false r := by
  have key : ∀ l : List Nat, (∀ c ∈ l, c ≠ 92) → unitsL i false (l ++ r) = unitsL i false l ++ unitsL (i + l.length) false r := fun l h => by
    have h1 := units_plain l r i h
    have h2 := units_plain l [] i h
    rw [List.append_nil] at h2
    rw [h1, h2]; simp [unitsL]
  unfold unitsT
  cases kind L t with
  | o => exact key _ (by simp [tx])
  | c => exact key _ (by simp [tx])
  | sg j h => exact key _ fun c hc => (h c hc).1
  | esc j c h => rw [h]; show unitsL i false (92 :: c :: r) = unitsL i false (92 :: c :: []) ++ _; rw [units_esc, units_esc]; rfl
  | quo j c h1 h => rw [h]; exact key _ (by rcases h1 with rfl | rfl <;> simp)

theorem unitsT_esc {L : Lab} {i j c : Nat} (h : tx L (.th j) = [92, c]) : unitsT L i (.th j) = [(((i + 1 : Nat) : Int), [92, c])] := by
  unfold unitsT; rw [h]; exact units_esc i c []
theorem unitsT_quo {L : Lab} {i j c : Nat} (hc : c = 40 ∨ c = 41) (h : tx L (.th j) = [34, c, 34]) : unitsT L i (.th j) = [((i : Int), [34]), (((i + 1 : Nat) : Int), [c]), (((i + 2 : Nat) : Int), [34])] := by
  unfold unitsT; rw [h, units_one _ _ _ (by decide), units_one _ _ _ (by (first | lia | omega)), units_one _ _ _ (by decide)]; rfl
theorem unitsT_sg {L : Lab} {i j : Nat} : unitsT L i (.sg j) = plainU i (tx L (.sg j)) := by
  have h2 := units_plain (tx L (.sg j)) [] i fun c hc => (sign_plain _ (L.hs j) c hc).1
  rw [List.append_nil] at h2
  unfold unitsT; rw [h2]; simp [unitsL]
theorem plainU_mem : ∀ {l : List Nat} {i : Nat} {u : Int × List Nat}, u ∈ plainU i l → ∃ c ∈ l, u.2 = [c]
  | c :: l, i, u, h => by
    rcases List.mem_cons.mp h with rfl | h
    · exact ⟨c, List.mem_cons_self .., rfl⟩
    · obtain ⟨d, hd, e⟩ := plainU_mem h
      exact ⟨d, List.mem_cons_of_mem _ hd, e⟩

/-! ## stripping -/

/- a piece without its quotation -/
noncomputable def sx (L : Lab) (t : T) : List Nat := if (tx L t).head? = some 34 then [] else tx L t

structure StripAt (cs : List Nat) (pos : Nat) (out : List Nat) (st : StripSt) : Prop where
  op : st.op = none
  at' : ∃ a : Nat, st.start = a ∧ a ≤ pos ∧ st.res.flatMap (·.cps.toList) ++ (cs.take pos).drop a = out

theorem strip_skip (x : Str) : ∀ (us : List (Int × List Nat)) (st : StripSt), (∀ u ∈ us, u.2 ≠ [34]) → us.foldl (stripStep x) st = st
  | [], st, _ => rfl
  | u :: us, st, h => by
    rw [List.foldl_cons, show stripStep x st u = st from if_neg (h u (List.mem_cons_self ..))]
    exact strip_skip x us st fun v hv => h v (List.mem_cons_of_mem _ hv)

theorem take_mid {pre m post : List Nat} : (pre ++ (m ++ post)).take (pre.length + m.length) = pre ++ m := by
  rw [← List.append_assoc, show pre.length + m.length = (pre ++ m).length by simp, List.take_left]

theorem stripAt_more {pre m post out : List Nat} {st : StripSt} (h : StripAt (pre ++ (m ++ post)) pre.length out st) : StripAt (pre ++ (m ++ post)) (pre.length + m.length) (out ++ m) st := by
  obtain ⟨h1, a, h2, h3, h4⟩ := h
  refine ⟨h1, a, h2, by (first | lia | omega), ?_⟩
  rw [take_mid, List.drop_append_of_le_length h3, ← List.append_assoc]
  rw [List.take_left] at h4
  rw [h4]

theorem strip_piece (L : Lab) (t : T) {pre post out : List Nat} {st : StripSt} (h : StripAt (pre ++ (tx L t ++ post)) pre.length out st) :
    StripAt (pre ++ (tx L t ++ post)) (pre.length + (tx L t).length) (out ++ sx L t) ((unitsT L pre.length t).foldl (stripStep ⟨(pre ++ (tx L t ++ post)).toArray⟩) st) := by
  cases kind L t with
  | o => exact stripAt_more h
  | c => exact stripAt_more h
  | sg j hj =>
    rw [unitsT_sg, strip_skip _ _ _ fun u hu => ?_]
    · have : sx L (.sg j) = tx L (.sg j) := by
        unfold sx
        rw [if_neg fun e => absurd rfl (hj 34 (List.mem_of_head? e)).2.1]
      rw [this]; exact stripAt_more h
    · obtain ⟨c, hc, e⟩ := plainU_mem hu
      rw [e]
      intro q; injection q with q
      exact (hj c hc).2.1 q
  | esc j c hj =>
    rw [unitsT_esc hj, strip_skip _ _ _ (by simp)]
    have : sx L (.th j) = tx L (.th j) := by unfold sx; rw [hj]; rfl
    rw [this]; exact stripAt_more h
  | quo j c hc hj =>
    have : sx L (.th j) = [] := by unfold sx; rw [hj]; rfl
    rw [this, List.append_nil, unitsT_quo hc hj]
    rw [hj] at h ⊢
    obtain ⟨start, op, res⟩ := st
    obtain ⟨h1, a, h2, h3, h4⟩ := h
    dsimp only at h1 h2 h4
    subst h1 h2
    generalize hx : (⟨(pre ++ ([34, c, 34] ++ post)).toArray⟩ : Str) = x
    have hcs : c ≠ 34 := by (first | lia | omega)
    have e1 : stripStep x ⟨a, none, res⟩ ((pre.length : Int), [34]) = ⟨a, some pre.length, res⟩ := rfl
    have e2 : stripStep x ⟨a, some pre.length, res⟩ (((pre.length + 1 : Nat) : Int), [c]) = ⟨a, some pre.length, res⟩ := if_neg (by simpa using hcs)
    have e3 : stripStep x ⟨a, some pre.length, res⟩ (((pre.length + 2 : Nat) : Int), [34]) = ⟨((pre.length + 2 : Nat) : Int) + 1, none, if (a : Int) ≠ pre.length then res ++ [Txt.slice x (some (a : Int)) (some (pre.length : Int))] else res⟩ := rfl
    simp only [List.foldl_cons, List.foldl_nil]
    rw [e1, e2, e3]
    refine ⟨rfl, pre.length + 3, by show ((pre.length + 2 : Nat) : Int) + 1 = _; (first | lia | omega), by simp, ?_⟩
    rw [List.drop_eq_nil_of_le (by rw [List.length_take]; exact Nat.min_le_left _ _), List.append_nil]
    by_cases q : (a : Int) = pre.length
    · rw [if_neg (by simpa using q)]
      rw [List.drop_eq_nil_of_le (by rw [List.length_take]; (first | lia | omega)), List.append_nil] at h4
      exact h4
    · rw [if_pos q, List.flatMap_append, ← h4, ← hx, txt_slice_eq, pick_both]
      simp

theorem strip_all (L : Lab) : ∀ (ts : List T) (pre post out : List Nat) (st : StripSt), StripAt (pre ++ (txs L ts ++ post)) pre.length out st →
    ∃ st', (unitsL pre.length false (txs L ts ++ post)).foldl (stripStep ⟨(pre ++ (txs L ts ++ post)).toArray⟩) st = (unitsL (pre.length + (txs L ts).length) false post).foldl (stripStep ⟨(pre ++ (txs L ts ++ post)).toArray⟩) st' ∧
      StripAt (pre ++ (txs L ts ++ post)) (pre.length + (txs L ts).length) (out ++ ts.flatMap (sx L)) st'
  | [], pre, post, out, st, h => ⟨st, rfl, by simpa [txs] using h⟩
  | t :: ts, pre, post, out, st, h => by
    have e : txs L (t :: ts) = tx L t ++ txs L ts := rfl
    rw [e, List.append_assoc] at h ⊢
    have h1 := strip_piece L t h
    have e2 : pre ++ (tx L t ++ (txs L ts ++ post)) = (pre ++ tx L t) ++ (txs L ts ++ post) := by simp
    rw [units_piece, List.foldl_append]
    generalize hst : (unitsT L pre.length t).foldl (stripStep ⟨(pre ++ (tx L t ++ (txs L ts ++ post))).toArray⟩) st = st₁ at h1 ⊢
    rw [e2] at h1 ⊢
    rw [show pre.length + (tx L t).length = (pre ++ tx L t).length by simp] at h1 ⊢
    obtain ⟨st', h2, h3⟩ := strip_all L ts (pre ++ tx L t) post _ st₁ h1
    refine ⟨st', ?_, ?_⟩
    · have := h2
      rw [show pre.length + (tx L t ++ txs L ts).length = (pre ++ tx L t).length + (txs L ts).length by simp; (first | lia | omega)]
      exact this
    · rw [show pre.length + (tx L t ++ txs L ts).length = (pre ++ tx L t).length + (txs L ts).length by simp; (first | lia | omega), List.flatMap_cons, ← List.append_assoc out]
      exact h3
end Mine
end

noncomputable section
open PySem PyProof.Rows
set_option Elab.async false
set_option linter.all false
set_option autoImplicit false
set_option maxRecDepth 100000
namespace Mine

theorem join_empty : ∀ xs : List Str, Txt.join "" xs = ⟨(xs.flatMap (·.cps.toList)).toArray⟩ := by
  intro xs
  show Builtin.Str.glued _ xs = _
  rw [StrLaws.glued_eq_join]
  induction xs with
  | nil => rfl
  | cons x r ih =>
    cases r with
    | nil => simp [Str.join]
    | cons y r =>
      show x ++ _ ++ Str.join _ (y :: r) = _
      rw [ih]
      have e : (Str.ofString "") = ⟨#[]⟩ := by decide +kernel
      apply Str.ext'
      rw [e, Str.cps_append, Str.cps_append]
      simp

theorem has_quote (l : List Nat) : Txt.contains ⟨l.toArray⟩ ("\"" : Str) = decide (34 ∈ l) := by
  have e : ("\"" : Str) = ⟨#[34]⟩ := by decide +kernel
  unfold Txt.contains
  rw [e, StrLaws.found_one]

theorem sx_of_plain (L : Lab) {t : T} (h : 34 ∉ tx L t) : sx L t = tx L t := by
  unfold sx
  rw [if_neg fun e => h (List.mem_of_head? e)]

/- what is left behind a lone end -/
inductive Tail : List Nat → Prop
  | none : Tail []
  | back : Tail [92]

/- the text without what stands in quotation marks -/
theorem strip_txs (L : Lab) (ts : List T) {e : List Nat} (he : Tail e) : stripS ⟨(txs L ts ++ e).toArray⟩ = ⟨(ts.flatMap (sx L) ++ e).toArray⟩ := by
  unfold stripS
  rw [has_quote]
  by_cases hq : 34 ∈ txs L ts ++ e
  · rw [if_pos (by simpa using hq)]
    obtain ⟨st', h1, h2⟩ := strip_all L ts [] e [] ⟨0, none, []⟩ ⟨rfl, 0, rfl, Nat.le_refl _, rfl⟩
    simp only [List.nil_append, List.length_nil, Nat.zero_add] at h1 h2
    show Txt.join "" (stripEnd _ ((unitsL 0 false (txs L ts ++ e)).foldl _ _)) = _
    rw [h1]
    have h3 : (unitsL (txs L ts).length false e).foldl (stripStep ⟨(txs L ts ++ e).toArray⟩) st' = st' := by
      apply strip_skip
      intro u hu
      cases he with
      | none => simp [unitsL] at hu
      | back =>
        rw [unitsL, if_pos rfl, unitsL] at hu
        simp at hu
        rw [hu]; simp
    rw [h3, join_empty]
    obtain ⟨h4, a, h5, h6, h7⟩ := h2
    congr 2
    rw [List.take_left] at h7
    unfold stripEnd
    rw [h5]
    have hl : ((⟨(txs L ts ++ e).toArray⟩ : Str)).length = (txs L ts ++ e).length := by show (txs L ts ++ e).toArray.size = _; rw [List.size_toArray]
    rw [hl]
    split
    · rw [List.flatMap_append, txt_slice_eq, pick_from, List.drop_append_of_le_length h6]
      simp only [List.flatMap_cons, List.flatMap_nil, List.append_nil]
      rw [← List.append_assoc, h7]
    · rename_i h
      have ha : a = (txs L ts).length := by
        have : ¬ ((a : Int) < ((txs L ts ++ e).length : Nat)) := h
        rw [List.length_append] at this
        (first | lia | omega)
      have he' : e = [] := by
        have : ¬ ((a : Int) < ((txs L ts ++ e).length : Nat)) := h
        rw [List.length_append] at this
        exact List.eq_nil_of_length_eq_zero (by (first | lia | omega))
      subst he'
      rw [List.drop_eq_nil_of_le (by (first | lia | omega)), List.append_nil] at h7
      rw [h7, List.append_nil]
  · rw [if_neg (by simpa using hq)]
    congr 3
    have : ∀ t ∈ ts, 34 ∉ tx L t := fun t ht q => hq (List.mem_append_left _ (List.mem_flatMap.mpr ⟨t, ht, q⟩))
    unfold txs
    clear hq
    induction ts with
    | nil => rfl
    | cons t ts ih =>
      rw [List.flatMap_cons, List.flatMap_cons, ih fun u hu => this u (List.mem_cons_of_mem _ hu), sx_of_plain L (this t (List.mem_cons_self ..))]

noncomputable def checkRun : Int → List (Int × List Nat) → Option Int
  | d, [] => some d
  | d, u :: r => if u.2 = [40] then checkRun (d + 1) r else if u.2 = [41] then (if d - 1 < 0 then none else checkRun (d - 1) r) else checkRun d r
noncomputable def checkE : Option Int → Bool
  | none => false
  | some d => d == 0
noncomputable def checkS (x : Str) : Bool := checkE (checkRun 0 (unitsL 0 false (stripS x).cps.toList))

theorem checkRun_skip (d : Int) : ∀ (us r : List (Int × List Nat)), (∀ u ∈ us, u.2 ≠ [40] ∧ u.2 ≠ [41]) → checkRun d (us ++ r) = checkRun d r
  | [], r, _ => rfl
  | u :: us, r, h => by
    have := h u (List.mem_cons_self ..)
    rw [List.cons_append, checkRun, if_neg this.1, if_neg this.2]
    exact checkRun_skip d us r fun v hv => h v (List.mem_cons_of_mem _ hv)

theorem check_run (L : Lab) {e : List Nat} (he : Tail e) : ∀ (ts : List T) (d i : Nat), checkE (checkRun d (unitsL i false (ts.flatMap (sx L) ++ e))) = balD d ts
  | [], d, i => by
    have : checkRun d (unitsL i false ([] ++ e)) = some (d : Int) := by
      cases he with
      | none => rfl
      | back => rw [List.nil_append, unitsL, if_pos rfl, unitsL, checkRun, if_neg (by simp), if_neg (by simp)]; rfl
    show checkE (checkRun d (unitsL i false ([] ++ e))) = _
    rw [this]
    cases d with
    | zero => rfl
    | succ d => show ((((d + 1 : Nat) : Int) == 0) = false); simp; (first | lia | omega)
  | t :: ts, d, i => by
    rw [List.flatMap_cons, List.append_assoc]
    cases kind L t with
    | o =>
      have : sx L .o = [40] := rfl
      rw [this]
      show checkE (checkRun d (unitsL i false (40 :: (ts.flatMap (sx L) ++ e)))) = _
      rw [units_one _ _ _ (by decide), checkRun, if_pos rfl]
      have := check_run L he ts (d + 1) (i + 1)
      cases d <;> exact this
    | c =>
      have : sx L .c = [41] := rfl
      rw [this]
      show checkE (checkRun d (unitsL i false (41 :: (ts.flatMap (sx L) ++ e)))) = _
      rw [units_one _ _ _ (by decide), checkRun, if_neg (by simp), if_pos rfl]
      cases d with
      | zero => rfl
      | succ d =>
        rw [if_neg (by (first | lia | omega)), show ((d + 1 : Nat) : Int) - 1 = d by (first | lia | omega)]
        exact check_run L he ts d (i + 1)
    | sg j hj =>
      have : sx L (.sg j) = tx L (.sg j) := sx_of_plain L fun h => (hj _ h).2.1 rfl
      rw [this, units_piece, unitsT_sg, checkRun_skip _ _ _ fun u hu => ?_]
      · have := check_run L he ts d (i + (tx L (.sg j)).length)
        cases d <;> exact this
      · obtain ⟨c, hc, e⟩ := plainU_mem hu
        rw [e]
        have := hj c hc
        simp [this]
    | esc j c hj =>
      have : sx L (.th j) = tx L (.th j) := by unfold sx; rw [hj]; rfl
      rw [this, units_piece, unitsT_esc hj, checkRun_skip _ _ _ (by simp)]
      have := check_run L he ts d (i + (tx L (.th j)).length)
      cases d <;> exact this
    | quo j c hc hj =>
      have : sx L (.th j) = [] := by unfold sx; rw [hj]; rfl
      rw [this, List.nil_append]
      have := check_run L he ts d i
      cases d <;> exact this

theorem check_txs (L : Lab) (ts : List T) {e : List Nat} (he : Tail e) : checkS ⟨(txs L ts ++ e).toArray⟩ = bal ts := by
  unfold checkS
  rw [strip_txs L ts he]
  exact check_run L he ts 0 0
end Mine
end

noncomputable section
open PySem PyProof.Rows
set_option Elab.async false
set_option linter.all false
set_option autoImplicit false
set_option maxRecDepth 100000
namespace Mine

noncomputable def tokTab : List (List Nat × Int) := [([33], 54), ([33, 61], 28), ([37], 24), ([37, 61], 40), ([38], 19), ([38, 61], 41), ([40], 7), ([41], 8), ([42], 16), ([42, 42], 35), ([42, 42, 61], 46), ([42, 61], 38), ([43], 14), ([43, 61], 36), ([44], 12), ([45], 15), ([45, 61], 37), ([45, 62], 51), ([46], 23), ([46, 46, 46], 52), ([47], 17), ([47, 47], 47), ([47, 47, 61], 48), ([47, 61], 39), ([58], 11), ([58, 61], 53), ([59], 13), ([60], 20), ([60, 60], 33), ([60, 60, 61], 44), ([60, 61], 29), ([61], 22), ([61, 61], 27), ([62], 21), ([62, 61], 30), ([62, 62], 34), ([62, 62, 61], 45), ([64], 49), ([64, 61], 50), ([91], 9), ([93], 10), ([94], 32), ([94, 61], 43), ([123], 25), ([124], 18), ([124, 61], 42), ([125], 26), ([126], 31)]
noncomputable def tokD : List (PyData × PyData) := tokTab.map fun p => (.str ⟨p.1.toArray⟩, .int p.2)
noncomputable def tokI (l : List Nat) : Option Int := tokTab.lookup l

theorem tok_lookup (l : List Nat) : Spec.lookup (.str ⟨l.toArray⟩) tokD = (tokI l).map PyData.int := by
  unfold tokD tokI
  generalize tokTab = D
  induction D with
  | nil => rfl
  | cons p D ih =>
    obtain ⟨a, b⟩ := p
    show (if Spec.same (.str ⟨a.toArray⟩) (.str ⟨l.toArray⟩) then some (PyData.int b) else Spec.lookup (.str ⟨l.toArray⟩) _) = _
    by_cases h : a = l
    · subst h
      have : Spec.same (.str ⟨a.toArray⟩) (.str ⟨a.toArray⟩) = true := by simp [Spec.same]
      rw [if_pos this]
      simp [List.lookup]
    · have : ¬ Spec.same (.str ⟨a.toArray⟩) (.str ⟨l.toArray⟩) = true := by simp [Spec.same, h]
      rw [if_neg this, ih]
      have h' : (l == a) = false := by simpa using fun e => h e.symm
      rw [List.lookup, h']

theorem lookup_mem' {α : Type} : ∀ {D : List (List Nat × α)} {l : List Nat} {a : α}, D.lookup l = some a → (l, a) ∈ D
  | (y, b) :: r, x, a, h => by
    by_cases hx : x = y
    · subst hx; simp [List.lookup] at h; subst h; exact List.mem_cons_self ..
    · have hb : (x == y) = false := by simpa using hx
      rw [List.lookup, hb] at h
      exact List.mem_cons_of_mem _ (lookup_mem' h)
noncomputable def badC (c : Nat) : Bool := c == 92 || c == 34 || c == 40 || c == 41
theorem tok_bad {l : List Nat} (h2 : 2 ≤ l.length) (hb : ∃ c ∈ l, badC c = true) : tokI l = none := by
  cases h : tokI l with
  | none => rfl
  | some v =>
    have hm := lookup_mem' h
    have : ∀ p ∈ tokTab, p.1.length ≤ 1 ∨ ∀ c ∈ p.1, badC c = false := by decide +kernel
    rcases this _ hm with q | q
    · simp only at q; (first | lia | omega)
    · obtain ⟨c, hc, hb⟩ := hb
      rw [q c hc] at hb; cases hb

noncomputable def foundL (suf : List Nat) : List (List Nat) := [suf.take 1, suf.take 2, suf.take 3].filter fun y => (tokI y).isSome

theorem found_br {c : Nat} (hc : c = 40 ∨ c = 41) (post : List Nat) : (foundL (c :: post)).getLast? = some [c] := by
  have h1 : (tokI [c]).isSome = true := by rcases hc with rfl | rfl <;> decide +kernel
  have hb : badC c = true := by rcases hc with rfl | rfl <;> rfl
  have hbad : ∀ l : List Nat, l ≠ [] → tokI (c :: l) = none := fun l hl => tok_bad (by cases l <;> simp_all) ⟨c, List.mem_cons_self .., hb⟩
  unfold foundL
  match post with
  | [] => simp [h1]
  | d :: [] => simp [h1, hbad]
  | d :: e :: r => simp [h1, hbad]

noncomputable def HeadBad (l : List Nat) : Prop := l = [] ∨ ∃ c r, l = c :: r ∧ badC c = true
theorem head_bad (L : Lab) {j : Nat} {ts : List T} (h : apartT (.sg j :: ts) = true) : HeadBad (txs L ts) := by
  match ts, h with
  | [], _ => exact .inl rfl
  | .o :: r, _ => exact .inr ⟨40, _, rfl, rfl⟩
  | .c :: r, _ => exact .inr ⟨41, _, rfl, rfl⟩
  | .th i :: r, _ =>
    have e : txs L (.th i :: r) = thingX (L.th i) ++ txs L r := rfl
    rw [e]
    rcases thing_cases (L.ht i) with ⟨c, hc⟩ | ⟨c, _, hc⟩
    · rw [hc]; exact .inr ⟨92, _, rfl, rfl⟩
    · rw [hc]; exact .inr ⟨34, _, rfl, rfl⟩

theorem found_sg {j : Nat} (hj : j < 13) {post : List Nat} (hp : HeadBad post) : (foundL ((signRow j).1 ++ post)).getLast? = some (signRow j).1 := by
  have key : (∃ a, (signRow j).1 = [a] ∧ (tokI [a]).isSome = true) ∨ ∃ a b, (signRow j).1 = [a, b] ∧ (tokI [a]).isSome = true ∧ (tokI [a, b]).isSome = true := by
    have : ∀ j, j < 13 → (match (signRow j).1 with
      | [a] => (tokI [a]).isSome
      | [a, b] => (tokI [a]).isSome && (tokI [a, b]).isSome
      | _ => false) = true := by decide +kernel
    have := this j hj
    generalize (signRow j).1 = s at this ⊢
    match s, this with
    | [a], h => exact .inl ⟨a, rfl, h⟩
    | [a, b], h => exact .inr ⟨a, b, rfl, by simpa using h⟩
  rcases hp with rfl | ⟨c, r, rfl, hb⟩
  · rcases key with ⟨a, e, h⟩ | ⟨a, b, e, h, h'⟩
    · rw [e]; simp [foundL, h]
    · rw [e]; simp [foundL, h, h']
  · rcases key with ⟨a, e, h⟩ | ⟨a, b, e, h, h'⟩
    · rw [e]
      have h2 : tokI [a, c] = none := tok_bad (by simp) ⟨c, by simp, hb⟩
      cases r with
      | nil => simp [foundL, h, h2]
      | cons d r =>
        have h3 : tokI [a, c, d] = none := tok_bad (by simp) ⟨c, by simp, hb⟩
        simp [foundL, h, h2, h3]
    · rw [e]
      have h3 : tokI [a, b, c] = none := tok_bad (by simp) ⟨c, by simp, hb⟩
      simp [foundL, h, h', h3]

structure MarkSt where
  marks : List (Int × Int × Int)
  quoted : Bool
  fin : Int
noncomputable def foundS (x : Str) (p : Int) : List (List Nat) := ([1, 2, 3] : List Int).filterMap fun k => if (tokI (Txt.slice x (some p) (some (p + k))).cps.toList).isSome then some (Txt.slice x (some p) (some (p + k))).cps.toList else none
noncomputable def markStep (x : Str) (st : MarkSt) (u : Int × List Nat) : MarkSt :=
  if u.2 = [34] then ⟨st.marks, !st.quoted, st.fin⟩
  else if (u.2.length == 1 && !st.quoted && decide (st.fin ≤ u.1)) = true then
    match (foundS x u.1).getLast? with
    | none => st
    | some f => ⟨if ((tokI f).getD 0 == 7 || (tokI f).getD 0 == 8) = true then st.marks else st.marks ++ [(u.1, u.1 + f.length, (tokI f).getD 0)], st.quoted, u.1 + f.length⟩
  else st
noncomputable def marksS (x : Str) : List (Int × Int × Int) := ((unitsL 0 false x.cps.toList).foldl (markStep x) ⟨[], false, 0⟩).marks

theorem foundS_eq (pre suf : List Nat) : foundS ⟨(pre ++ suf).toArray⟩ (pre.length : Int) = foundL suf := by
  have h : ∀ k : Nat, (Txt.slice ⟨(pre ++ suf).toArray⟩ (some (pre.length : Int)) (some ((pre.length : Int) + (k : Int)))).cps.toList = suf.take k := fun k => by
    rw [txt_slice_eq, show ((pre.length : Int) + (k : Int)) = ((pre.length + k : Nat) : Int) by (first | lia | omega), pick_both]
    simp [List.take_append, List.drop_append]
  unfold foundS foundL
  have h1 := h 1
  have h2 := h 2
  have h3 := h 3
  simp only [Int.ofNat_one, show ((2 : Nat) : Int) = 2 from rfl, show ((3 : Nat) : Int) = 3 from rfl, show ((1 : Nat) : Int) = 1 from rfl] at h1 h2 h3
  simp only [List.filterMap_cons, List.filterMap_nil, List.filter_cons, List.filter_nil, h1, h2, h3]
  cases (tokI (suf.take 1)).isSome <;> cases (tokI (suf.take 2)).isSome <;> cases (tokI (suf.take 3)).isSome <;> simp

noncomputable def marksT (L : Lab) : Nat → List T → List (Int × Int × Int)
  | _, [] => []
  | p, .sg j :: r => ((p : Int), ((p + (signRow (L.sg j)).1.length : Nat) : Int), (signRow (L.sg j)).2.1) :: marksT L (p + (signRow (L.sg j)).1.length) r
  | p, .o :: r => marksT L (p + 1) r
  | p, .c :: r => marksT L (p + 1) r
  | p, .th i :: r => marksT L (p + (thingX (L.th i)).length) r

theorem sign_told : ∀ j, j < 13 → tokI (signRow j).1 = some (signRow j).2.1 ∧ (signRow j).2.1 ≠ 7 ∧ (signRow j).2.1 ≠ 8 ∧ ((signRow j).1.length = 1 ∨ (signRow j).1.length = 2) := by decide +kernel

theorem marks_run (L : Lab) : ∀ (ts : List T) (pre : List Nat) (st : MarkSt), apartT ts = true → st.quoted = false → st.fin ≤ pre.length →
    ((unitsL pre.length false (txs L ts)).foldl (markStep ⟨(pre ++ txs L ts).toArray⟩) st).marks = st.marks ++ marksT L pre.length ts
  | [], pre, st, _, _, _ => by show st.marks = _; simp [marksT]
  | t :: ts, pre, st, ha, hq, hf => by
    have e : txs L (t :: ts) = tx L t ++ txs L ts := rfl
    have hrest : apartT ts = true := by
      match t, ts, ha with
      | .sg _, [], _ => rfl
      | .sg _, .o :: _, h => exact h
      | .sg _, .c :: _, h => exact h
      | .sg _, .th _ :: _, h => exact h
      | .o, _, h => exact h
      | .c, _, h => exact h
      | .th _, _, h => exact h
    rw [e, units_piece, List.foldl_append]
    have e2 : pre ++ (tx L t ++ txs L ts) = (pre ++ tx L t) ++ txs L ts := by simp
    have next : ∀ st' : MarkSt, (unitsT L pre.length t).foldl (markStep ⟨(pre ++ (tx L t ++ txs L ts)).toArray⟩) st = st' → st'.quoted = false → st'.fin ≤ ((pre ++ tx L t).length : Nat) →
        ∀ m, st'.marks ++ marksT L (pre.length + (tx L t).length) ts = m →
        ((unitsL (pre.length + (tx L t).length) false (txs L ts)).foldl (markStep ⟨(pre ++ (tx L t ++ txs L ts)).toArray⟩) ((unitsT L pre.length t).foldl (markStep ⟨(pre ++ (tx L t ++ txs L ts)).toArray⟩) st)).marks = m := by
      intro st' h1 h2 h3 m hm
      rw [h1, e2, ← hm, ← List.length_append]
      exact marks_run L ts (pre ++ tx L t) st' hrest h2 h3
    have one : ∀ (c : Nat) (f : List Nat), c ≠ 34 → (foundL (tx L t ++ txs L ts)).getLast? = some f →
        markStep ⟨(pre ++ (tx L t ++ txs L ts)).toArray⟩ st ((pre.length : Int), [c]) = ⟨if ((tokI f).getD 0 == 7 || (tokI f).getD 0 == 8) = true then st.marks else st.marks ++ [((pre.length : Int), (pre.length : Int) + f.length, (tokI f).getD 0)], false, (pre.length : Int) + f.length⟩ := by
      intro c f hc hfd
      unfold markStep
      rw [if_neg (by simpa using hc), if_pos (by simp [hq, hf]), foundS_eq, hfd, hq]
    cases kind L t with
    | o =>
      refine next _ (one 40 [40] (by decide) (found_br (.inl rfl) _)) rfl (by show (pre.length : Int) + 1 ≤ _; simp [tx]) _ rfl
    | c =>
      refine next _ (one 41 [41] (by decide) (found_br (.inr rfl) _)) rfl (by show (pre.length : Int) + 1 ≤ _; simp [tx]) _ rfl
    | sg j hj =>
      have hfd := found_sg (L.hs j) (head_bad L ha)
      obtain ⟨ht, h7, h8, hl⟩ := sign_told _ (L.hs j)
      have one' := fun c hc => one c _ hc hfd
      rw [ht] at one'
      have h78 : ¬ ((Option.getD (some (signRow (L.sg j)).2.1) 0 == 7 || Option.getD (some (signRow (L.sg j)).2.1) 0 == 8) = true) := by simp [h7, h8]
      rw [if_neg h78] at one'
      have etx : tx L (.sg j) = (signRow (L.sg j)).1 := rfl
      refine next ⟨st.marks ++ [((pre.length : Int), (pre.length : Int) + (signRow (L.sg j)).1.length, (signRow (L.sg j)).2.1)], false, (pre.length : Int) + (signRow (L.sg j)).1.length⟩ ?_ rfl (by simp [etx]) _ ?_
      · rw [unitsT_sg]
        have hc : ∀ c ∈ tx L (.sg j), c ≠ 34 := fun c h => (hj c h).2.1
        rw [etx] at hc ⊢
        rcases hl with hl | hl
        · match hs : (signRow (L.sg j)).1, hl with
          | [a], _ =>
            rw [hs] at hc
            rw [etx, hs] at one'
            exact one' a (hc a (by simp))
        · match hs : (signRow (L.sg j)).1, hl with
          | [a, b], _ =>
            rw [hs] at hc
            rw [etx, hs] at one'
            show markStep _ (markStep _ st ((pre.length : Int), [a])) (((pre.length + 1 : Nat) : Int), [b]) = _
            rw [one' a (hc a (by simp))]
            unfold markStep
            rw [if_neg (by simpa using hc b (by simp)), if_neg]
            · rfl
            have : ¬ (((pre.length : Int) + ([a, b].length : Nat)) ≤ ((pre.length + 1 : Nat) : Int)) := by simp only [List.length_cons, List.length_nil]; (first | lia | omega)
            intro q
            rw [Bool.and_eq_true] at q
            exact this (of_decide_eq_true q.2)
      · simp [marksT, etx]
    | esc j c hj =>
      have etx : tx L (.th j) = thingX (L.th j) := rfl
      refine next st ?_ hq (by rw [List.length_append]; (first | lia | omega)) _ rfl
      rw [unitsT_esc hj]
      show markStep ⟨(pre ++ (tx L (.th j) ++ txs L ts)).toArray⟩ st (((pre.length + 1 : Nat) : Int), [92, c]) = st
      unfold markStep
      rw [if_neg (by simp), if_neg (by simp)]
    | quo j c hc hj =>
      have etx : tx L (.th j) = thingX (L.th j) := rfl
      refine next st ?_ hq (by rw [List.length_append]; (first | lia | omega)) _ rfl
      rw [unitsT_quo hc hj]
      obtain ⟨m, q, fin⟩ := st
      dsimp only at hq
      subst hq
      have h34 : c ≠ 34 := by (first | lia | omega)
      simp [markStep, h34]

theorem marks_txs (L : Lab) {ts : List T} (h : apartT ts = true) : marksS ⟨(txs L ts).toArray⟩ = marksT L 0 ts := by
  exact marks_run L ts [] ⟨[], false, 0⟩ h rfl (by simp)
end Mine
end

noncomputable section
open PySem PyProof.Rows
set_option Elab.async false
set_option linter.all false
set_option autoImplicit false
set_option maxRecDepth 100000
namespace Mine

theorem txs_append (L : Lab) (a b : List T) : txs L (a ++ b) = txs L a ++ txs L b := by unfold txs; rw [List.flatMap_append]
theorem txs_cons (L : Lab) (t : T) (b : List T) : txs L (t :: b) = tx L t ++ txs L b := rfl
theorem txs_nil (L : Lab) : txs L [] = [] := rfl

theorem slice_at {A B C : List Nat} {i j : Int} (hi : i = (A.length : Nat)) (hj : j = ((A.length + B.length : Nat) : Int)) : Txt.slice ⟨(A ++ (B ++ C)).toArray⟩ (some i) (some j) = ⟨B.toArray⟩ := by
  subst hi hj
  rw [txt_slice_eq, pick_both, take_mid, List.drop_left]

/- the depth behind a stretch -/
noncomputable def runD : Nat → List T → Option Nat
  | d, [] => some d
  | d, .o :: r => runD (d + 1) r
  | 0, .c :: _ => none
  | d + 1, .c :: r => runD d r
  | d, .sg _ :: r => runD d r
  | d, .th _ :: r => runD d r
theorem runD_o (d : Nat) (r : List T) : runD d (.o :: r) = runD (d + 1) r := by cases d <;> rfl
theorem runD_sg (d i : Nat) (r : List T) : runD d (.sg i :: r) = runD d r := by cases d <;> rfl
theorem runD_th (d i : Nat) (r : List T) : runD d (.th i :: r) = runD d r := by cases d <;> rfl
theorem balD_run : ∀ (l : List T) (d : Nat), balD d l = decide (runD d l = some 0)
  | [], 0 => rfl
  | [], d + 1 => by show false = _; simp [runD]
  | .o :: r, d => by rw [runD_o, ← balD_run r (d + 1)]; cases d <;> rfl
  | .c :: r, 0 => rfl
  | .c :: r, d + 1 => balD_run r d
  | .sg i :: r, d => by rw [runD_sg, ← balD_run r d]; cases d <;> rfl
  | .th i :: r, d => by rw [runD_th, ← balD_run r d]; cases d <;> rfl
theorem bal_iff {l : List T} : bal l = true ↔ runD 0 l = some 0 := by unfold bal; rw [balD_run]; simp
theorem runD_append : ∀ (a b : List T) (d : Nat), runD d (a ++ b) = (runD d a).bind fun e => runD e b
  | [], b, d => rfl
  | .o :: r, b, d => by rw [List.cons_append, runD_o, runD_o, runD_append r b]
  | .c :: r, b, 0 => rfl
  | .c :: r, b, d + 1 => runD_append r b d
  | .sg i :: r, b, d => by rw [List.cons_append, runD_sg, runD_sg, runD_append r b]
  | .th i :: r, b, d => by rw [List.cons_append, runD_th, runD_th, runD_append r b]
theorem runD_shift : ∀ (a : List T) (d e : Nat), runD d a = some e → runD (d + 1) a = some (e + 1)
  | [], d, e, h => by cases h; rfl
  | .o :: r, d, e, h => by rw [runD_o] at h ⊢; exact runD_shift r _ _ h
  | .c :: r, 0, e, h => by cases h
  | .c :: r, d + 1, e, h => runD_shift r d e h
  | .sg i :: r, d, e, h => by rw [runD_sg] at h ⊢; exact runD_shift r _ _ h
  | .th i :: r, d, e, h => by rw [runD_th] at h ⊢; exact runD_shift r _ _ h

theorem bal_rest {l r : List T} {k : Nat} (h : bal (l ++ T.sg k :: r) = true) (hl : bal l = true) : bal r = true := by
  rw [bal_iff] at *
  rw [runD_append, hl] at h
  exact h
theorem bal_inner_th {m : List T} {i : Nat} (h : bal (T.o :: (m ++ [T.th i])) = true) : bal m = false := by
  cases q : bal m with
  | false => rfl
  | true =>
    rw [bal_iff] at *
    rw [runD_o, runD_append, runD_shift _ _ _ q] at h
    cases h

theorem tx_ne (L : Lab) (t : T) : tx L t ≠ [] := by
  cases kind L t with
  | o => simp [tx]
  | c => simp [tx]
  | sg j hj =>
    have := (sign_told _ (L.hs j)).2.2.2
    intro e
    have e' : (signRow (L.sg j)).1 = [] := e
    rw [e'] at this; simp at this
  | esc j c h => rw [h]; simp
  | quo j c h1 h => rw [h]; simp

theorem head_tok (L : Lab) (t : T) : ∃ c r, tx L t = c :: r ∧ (tokI [c] == some 7) = decide (t = T.o) := by
  cases kind L t with
  | o => exact ⟨40, [], rfl, by decide +kernel⟩
  | c => exact ⟨41, [], rfl, by decide +kernel⟩
  | sg j hj =>
    have : ∀ j, j < 13 → (match (signRow j).1 with
      | [] => false
      | c :: _ => tokI [c] != some 7) = true := by decide +kernel
    have := this _ (L.hs j)
    have e : tx L (.sg j) = (signRow (L.sg j)).1 := rfl
    cases h : (signRow (L.sg j)).1 with
    | nil => rw [h] at this; cases this
    | cons c r =>
      rw [h] at this
      refine ⟨c, r, by rw [e, h], ?_⟩
      have h2 : decide (T.sg j = T.o) = false := by simp
      rw [h2]
      simpa using this
  | esc j c h => exact ⟨92, [c], h, by rw [show decide (T.th j = T.o) = false by simp]; decide +kernel⟩
  | quo j c h1 h => exact ⟨34, [c, 34], h, by rw [show decide (T.th j = T.o) = false by simp]; decide +kernel⟩

/- the last sign of a piece says «closing bracket» for a closing bracket and an escaped one -/
theorem last_tok (L : Lab) (t : T) : ∃ r c, tx L t = r ++ [c] ∧ (((tokI [c] == some 8) = true ∧ (t = T.c ∨ ∃ i, t = T.th i ∧ tx L t = [92, 41])) ∨ ((tokI [c] == some 8) = false ∧ t ≠ T.c)) := by
  cases kind L t with
  | o => exact ⟨[], 40, rfl, .inr ⟨by decide +kernel, by simp⟩⟩
  | c => exact ⟨[], 41, rfl, .inl ⟨by decide +kernel, .inl rfl⟩⟩
  | sg j hj =>
    have : ∀ j, j < 13 → (match (signRow j).1.reverse with
      | [] => false
      | c :: _ => tokI [c] != some 8) = true := by decide +kernel
    have := this _ (L.hs j)
    have e : tx L (.sg j) = (signRow (L.sg j)).1 := rfl
    cases h : (signRow (L.sg j)).1.reverse with
    | nil => rw [h] at this; cases this
    | cons c r =>
      rw [h] at this
      refine ⟨r.reverse, c, by rw [e, ← List.reverse_reverse (signRow (L.sg j)).1, h, List.reverse_cons], .inr ⟨by simpa using this, by simp⟩⟩
  | esc j c h =>
    by_cases hc : c = 41
    · subst hc; exact ⟨[92], 41, h, .inl ⟨by decide +kernel, .inr ⟨j, rfl, h⟩⟩⟩
    · refine ⟨[92], c, h, .inr ⟨?_, by simp⟩⟩
      have hcc : c = 92 ∨ c = 40 ∨ c = 34 := by
        have : ∀ j, j < 6 → ∀ c ∈ (thingX j).drop 1, (thingX j).head? = some 92 → c = 92 ∨ c = 40 ∨ c = 41 ∨ c = 34 := by decide +kernel
        have h' : thingX (L.th j) = [92, c] := h
        have := this _ (L.ht j) c (by rw [h']; simp) (by rw [h']; rfl)
        (first | lia | omega)
      rcases hcc with rfl | rfl | rfl <;> decide +kernel
  | quo j c h1 h => exact ⟨[34, c], 34, h, .inr ⟨by decide +kernel, by simp⟩⟩

theorem stripQ_some {ts m : List T} (h : stripQ ts = some m) : ts = T.o :: (m ++ [T.c]) ∧ bal m = true := by
  unfold stripQ at h
  split at h
  · rename_i r
    split at h
    · rename_i hl
      split at h
      · rename_i hb
        cases h
        have hne : r ≠ [] := by rintro rfl; cases hl
        have hg : r.getLast hne = T.c := by rw [List.getLast?_eq_some_getLast hne] at hl; exact Option.some.inj hl
        exact ⟨by rw [← hg, List.dropLast_concat_getLast], hb⟩
      · cases h
    · cases h
  · cases h
theorem stripQ_of {m : List T} (h : bal m = true) : stripQ (T.o :: (m ++ [T.c])) = some m := by
  show (match (m ++ [T.c]).getLast? with
    | some .c => if bal (m ++ [T.c]).dropLast then some (m ++ [T.c]).dropLast else none
    | _ => none) = _
  rw [List.getLast?_concat, List.dropLast_concat]
  simp [h]
theorem stripQ_not {m : List T} (h : bal m = false) : stripQ (T.o :: (m ++ [T.c])) = none := by
  show (match (m ++ [T.c]).getLast? with
    | some .c => if bal (m ++ [T.c]).dropLast then some (m ++ [T.c]).dropLast else none
    | _ => none) = _
  rw [List.getLast?_concat, List.dropLast_concat]
  simp [h]

theorem topsT_mem : ∀ (ts pre : List T) (x : List T × Nat × List T), x ∈ topsT pre ts → pre ++ ts = x.1 ++ T.sg x.2.1 :: x.2.2 ∧ bal x.1 = true ∧ x.1 ≠ []
  | [], pre, x, h => by simp [topsT] at h
  | .sg k :: r, pre, x, h => by
    rw [topsT] at h
    rcases List.mem_append.mp h with h | h
    · split at h
      · rename_i q
        rw [List.mem_singleton] at h
        subst h
        simp at q
        exact ⟨rfl, q.2, q.1⟩
      · cases h
    · have := topsT_mem r (pre ++ [T.sg k]) x h
      simpa using this
  | .o :: r, pre, x, h => by
    have := topsT_mem r (pre ++ [T.o]) x h
    simpa using this
  | .c :: r, pre, x, h => by
    have := topsT_mem r (pre ++ [T.c]) x h
    simpa using this
  | .th i :: r, pre, x, h => by
    have := topsT_mem r (pre ++ [T.th i]) x h
    simpa using this

theorem marksT_append (L : Lab) : ∀ (a b : List T) (p : Nat), marksT L p (a ++ b) = marksT L p a ++ marksT L (p + (txs L a).length) b
  | [], b, p => by simp [marksT, txs]
  | .sg j :: a, b, p => by
    have e : (txs L (.sg j :: a)).length = (signRow (L.sg j)).1.length + (txs L a).length := by rw [txs_cons, List.length_append]; rfl
    rw [List.cons_append, marksT, marksT, marksT_append L a b, List.cons_append, e, Nat.add_assoc]
  | .o :: a, b, p => by
    have e : (txs L (.o :: a)).length = 1 + (txs L a).length := by rw [txs_cons, List.length_append]; rfl
    rw [List.cons_append, marksT, marksT, marksT_append L a b, e, Nat.add_assoc]
  | .c :: a, b, p => by
    have e : (txs L (.c :: a)).length = 1 + (txs L a).length := by rw [txs_cons, List.length_append]; rfl
    rw [List.cons_append, marksT, marksT, marksT_append L a b, e, Nat.add_assoc]
  | .th i :: a, b, p => by
    have e : (txs L (.th i :: a)).length = (thingX (L.th i)).length + (txs L a).length := by rw [txs_cons, List.length_append]; rfl
    rw [List.cons_append, marksT, marksT, marksT_append L a b, e, Nat.add_assoc]

theorem marksT_bounds (L : Lab) : ∀ (a : List T) (p : Nat) (m : Int × Int × Int), m ∈ marksT L p a → (p : Int) ≤ m.1 ∧ m.1 < ((p + (txs L a).length : Nat) : Int) ∧ m.2.1 ≤ ((p + (txs L a).length : Nat) : Int)
  | [], p, m, h => by simp [marksT] at h
  | .sg j :: a, p, m, h => by
    have e : (txs L (.sg j :: a)).length = (signRow (L.sg j)).1.length + (txs L a).length := by rw [txs_cons, List.length_append]; rfl
    have hl := (sign_told _ (L.hs j)).2.2.2
    rw [marksT] at h
    rcases List.mem_cons.mp h with rfl | h
    · simp only; (first | lia | omega)
    · have := marksT_bounds L a _ m h; (first | lia | omega)
  | .o :: a, p, m, h => by
    have e : (txs L (.o :: a)).length = 1 + (txs L a).length := by rw [txs_cons, List.length_append]; rfl
    have := marksT_bounds L a _ m h; (first | lia | omega)
  | .c :: a, p, m, h => by
    have e : (txs L (.c :: a)).length = 1 + (txs L a).length := by rw [txs_cons, List.length_append]; rfl
    have := marksT_bounds L a _ m h; (first | lia | omega)
  | .th i :: a, p, m, h => by
    have e : (txs L (.th i :: a)).length = (thingX (L.th i)).length + (txs L a).length := by rw [txs_cons, List.length_append]; rfl
    have := marksT_bounds L a _ m h; (first | lia | omega)
theorem marksT_length (L : Lab) : ∀ (a : List T) (p : Nat), (marksT L p a).length ≤ a.length
  | [], p => Nat.le_refl _
  | .sg j :: a, p => by have := marksT_length L a (p + (signRow (L.sg j)).1.length); simp [marksT]; (first | lia | omega)
  | .o :: a, p => by have := marksT_length L a (p + 1); simp [marksT]; (first | lia | omega)
  | .c :: a, p => by have := marksT_length L a (p + 1); simp [marksT]; (first | lia | omega)
  | .th i :: a, p => by have := marksT_length L a (p + (thingX (L.th i)).length); simp [marksT]; (first | lia | omega)

/- what the reader asks of a mark -/
noncomputable def isTop (x : Str) (i j : Int) (m : Int × Int × Int) : Bool := decide (i < m.1) && decide (m.1 < j) && checkS (Txt.slice x (some i) (some m.1))
noncomputable def markOf (L : Lab) (p : Nat) (x : List T × Nat × List T) : Int × Int × Int :=
  (((p + (txs L x.1).length : Nat) : Int), ((p + (txs L x.1).length + (signRow (L.sg x.2.1)).1.length : Nat) : Int), (signRow (L.sg x.2.1)).2.1)

theorem tops_mid (L : Lab) (pre post : List T) : ∀ (r l : List T),
    (marksT L (txs L (pre ++ l)).length r).filter (isTop ⟨(txs L (pre ++ (l ++ r) ++ post)).toArray⟩ ((txs L pre).length : Nat) ((txs L (pre ++ (l ++ r))).length : Nat)) = (topsT l r).map (markOf L (txs L pre).length)
  | [], l => by simp [marksT, topsT]
  | .sg k :: r, l => by
    have ih := tops_mid L pre post r (l ++ [T.sg k])
    have e1 : l ++ [T.sg k] ++ r = l ++ T.sg k :: r := by simp
    have e2 : (txs L (pre ++ (l ++ [T.sg k]))).length = (txs L (pre ++ l)).length + (signRow (L.sg k)).1.length := by
      simp only [txs_append, List.length_append, txs_cons, txs_nil, tx]; simp; (first | lia | omega)
    rw [e1, e2] at ih
    rw [marksT, topsT, List.filter_cons, ih, List.map_append]
    have hsl : Txt.slice ⟨(txs L (pre ++ (l ++ T.sg k :: r) ++ post)).toArray⟩ (some (((txs L pre).length : Nat) : Int)) (some (((txs L (pre ++ l)).length : Nat) : Int)) = ⟨(txs L l ++ []).toArray⟩ := by
      have : txs L (pre ++ (l ++ T.sg k :: r) ++ post) = txs L pre ++ (txs L l ++ (txs L (T.sg k :: r) ++ txs L post)) := by simp only [txs_append, List.append_assoc]
      rw [this, List.append_nil]
      exact slice_at rfl (by rw [txs_append, List.length_append])
    have ht : isTop ⟨(txs L (pre ++ (l ++ T.sg k :: r) ++ post)).toArray⟩ ((txs L pre).length : Nat) ((txs L (pre ++ (l ++ T.sg k :: r))).length : Nat) (((txs L (pre ++ l)).length : Nat), ((((txs L (pre ++ l)).length + (signRow (L.sg k)).1.length : Nat) : Int), (signRow (L.sg k)).2.1)) = (!l.isEmpty && bal l) := by
      unfold isTop
      dsimp only
      rw [hsl, check_txs L l .none]
      have h2 : ((txs L (pre ++ l)).length : Int) < ((txs L (pre ++ (l ++ T.sg k :: r))).length : Nat) := by
        have := (sign_told _ (L.hs k)).2.2.2
        simp only [txs_append, txs_cons, List.length_append, tx]
        (first | lia | omega)
      rw [decide_eq_true h2, Bool.and_true]
      congr 1
      cases l with
      | nil => simp
      | cons t l =>
        have : 0 < (tx L t).length := List.length_pos_iff.mpr (tx_ne L t)
        rw [decide_eq_true (by simp only [txs_append, txs_cons, List.length_append]; (first | lia | omega))]
        rfl
    rw [ht]
    cases hb : (!l.isEmpty && bal l) with
    | false => simp
    | true =>
      simp only [if_true, List.map_cons, List.map_nil, List.singleton_append]
      congr 1
      unfold markOf
      simp only [txs_append, List.length_append]
  | .o :: r, l => by
    have ih := tops_mid L pre post r (l ++ [T.o])
    have e1 : l ++ [T.o] ++ r = l ++ T.o :: r := by simp
    have e2 : (txs L (pre ++ (l ++ [T.o]))).length = (txs L (pre ++ l)).length + 1 := by
      simp only [txs_append, List.length_append, txs_cons, txs_nil, tx]; simp; (first | lia | omega)
    rw [e1, e2] at ih
    exact ih
  | .c :: r, l => by
    have ih := tops_mid L pre post r (l ++ [T.c])
    have e1 : l ++ [T.c] ++ r = l ++ T.c :: r := by simp
    have e2 : (txs L (pre ++ (l ++ [T.c]))).length = (txs L (pre ++ l)).length + 1 := by
      simp only [txs_append, List.length_append, txs_cons, txs_nil, tx]; simp; (first | lia | omega)
    rw [e1, e2] at ih
    exact ih
  | .th i :: r, l => by
    have ih := tops_mid L pre post r (l ++ [T.th i])
    have e1 : l ++ [T.th i] ++ r = l ++ T.th i :: r := by simp
    have e2 : (txs L (pre ++ (l ++ [T.th i]))).length = (txs L (pre ++ l)).length + (thingX (L.th i)).length := by
      simp only [txs_append, List.length_append, txs_cons, txs_nil, tx]; simp; (first | lia | omega)
    rw [e1, e2] at ih
    exact ih

theorem tops_all (L : Lab) (pre ts post : List T) :
    (marksT L 0 (pre ++ ts ++ post)).filter (isTop ⟨(txs L (pre ++ ts ++ post)).toArray⟩ ((txs L pre).length : Nat) ((txs L (pre ++ ts)).length : Nat)) = (topsT [] ts).map (markOf L (txs L pre).length) := by
  rw [marksT_append, marksT_append, List.filter_append, List.filter_append]
  have h1 : (marksT L 0 pre).filter (isTop ⟨(txs L (pre ++ ts ++ post)).toArray⟩ ((txs L pre).length : Nat) ((txs L (pre ++ ts)).length : Nat)) = [] := by
    rw [List.filter_eq_nil_iff]
    intro m hm
    have := marksT_bounds L pre 0 m hm
    unfold isTop
    rw [decide_eq_false (by (first | lia | omega))]
    simp
  have h3 : (marksT L (0 + (txs L (pre ++ ts)).length) post).filter (isTop ⟨(txs L (pre ++ ts ++ post)).toArray⟩ ((txs L pre).length : Nat) ((txs L (pre ++ ts)).length : Nat)) = [] := by
    rw [List.filter_eq_nil_iff]
    intro m hm
    have := marksT_bounds L post _ m hm
    unfold isTop
    rw [decide_eq_false (p := m.1 < _) (by (first | lia | omega))]
    simp
  have h2 := tops_mid L pre post ts []
  rw [h1, h3, List.nil_append, List.append_nil]
  simpa using h2

theorem stripN_len : ∀ (n : Nat) (ts ts' : List T), stripN n ts = some ts' → ts'.length ≤ ts.length
  | 0, ts, ts', h => by cases h
  | n + 1, ts, ts', h => by
    unfold stripN at h
    split at h
    · cases h; exact Nat.le_refl _
    · rename_i m hm
      have := stripN_len n m ts' h
      rw [(stripQ_some hm).1]
      simp; (first | lia | omega)
theorem choose_mem (P : Par) (x : List T × Nat × List T) (l : List (List T × Nat × List T)) : choose P x l ∈ x :: l := by
  unfold choose
  split
  · exact List.mem_cons_self ..
  · exact List.getLast_mem _
theorem readT_len (P : Par) : ∀ (f : Nat) (ts : List T) (r : List R), readT P f ts = some r → r.length ≤ ts.length
  | 0, ts, r, h => by cases h
  | f + 1, ts, r, h => by
    unfold readT at h
    split at h
    · cases h
    · rename_i ts' hs
      have hl := stripN_len _ _ _ hs
      split at h
      · split at h
        · cases h; exact hl
        · cases h
      · rename_i x l ht
        split at h
        · rename_i a b ha hb
          cases h
          have h1 := readT_len P f _ _ ha
          have h2 := readT_len P f _ _ hb
          obtain ⟨h3, _⟩ := topsT_mem ts' [] (choose P x l) (by rw [ht]; exact choose_mem P x l)
          rw [List.nil_append] at h3
          rw [h3, List.length_append, List.length_cons] at hl
          simp only [List.length_append, List.length_cons, List.length_nil]
          (first | lia | omega)
        · cases h
end Mine
end

noncomputable section
open PySem PyProof.Rows
set_option Elab.async false
set_option linter.all false
set_option autoImplicit false
set_option maxRecDepth 100000
namespace Mine

noncomputable def theFns : List (Str × (Arguments × List Stmt × Scope)) := [("_iter_escaped_chars", defAt 1), ("_strip_quoted_realnames", defAt 2), ("_check_parenthesis", defAt 3), ("_law_signs", defAt 54), ("_law_formula", defAt 55), ("_law_dressed", defAt 56), ("_law_marks", defAt 57), ("_law_read", defAt 58), ("_law_row", defAt 59), ("_law_without", defAt 60), ("law", defAt 61)]
theorem fn_iter : theFns.lookup ("_iter_escaped_chars" : Str) = some (defAt 1) := by kernel_rfl
theorem fn_strip : theFns.lookup ("_strip_quoted_realnames" : Str) = some (defAt 2) := by kernel_rfl
theorem fn_check : theFns.lookup ("_check_parenthesis" : Str) = some (defAt 3) := by kernel_rfl
theorem fn_signs : theFns.lookup ("_law_signs" : Str) = some (defAt 54) := by kernel_rfl
theorem fn_formula : theFns.lookup ("_law_formula" : Str) = some (defAt 55) := by kernel_rfl
theorem fn_dressed : theFns.lookup ("_law_dressed" : Str) = some (defAt 56) := by kernel_rfl
theorem fn_marks : theFns.lookup ("_law_marks" : Str) = some (defAt 57) := by kernel_rfl
theorem fn_read : theFns.lookup ("_law_read" : Str) = some (defAt 58) := by kernel_rfl
theorem fn_row : theFns.lookup ("_law_row" : Str) = some (defAt 59) := by kernel_rfl
theorem fn_without : theFns.lookup ("_law_without" : Str) = some (defAt 60) := by kernel_rfl
theorem fn_law : theFns.lookup ("law" : Str) = some (defAt 61) := by kernel_rfl

theorem semP_some {G : Glo} {k : Nat} {sc : Scope} {mv : Option Str} {σ : Sig} {e : Expr} {i : Int} (h : SemE G k sc mv σ e (.int i)) : SemP G k sc mv σ (some e) (some i) := h

theorem semP_none {G : Glo} {k : Nat} {sc : Scope} {mv : Option Str} {σ : Sig} : SemP G k sc mv σ none none := trivial

/- a loop as a fold, with what holds between the turns -/
theorem forRel_fold {α β : Type} {step : PV → Sig → Sig → PFlow → Prop} (enc : α → PV) (σ : β → Sig) (f : β → α → β) (Inv : Nat → β → Prop) :
    ∀ (items : List α) (n : Nat) (b : β), Inv n b → (∀ m b a, Inv m b → m < n + items.length → a ∈ items → step (enc a) (σ b) (σ (f b a)) .next ∧ Inv (m + 1) (f b a)) →
      ForRel step (items.map enc) (σ b) (σ (items.foldl f b)) .next ∧ Inv (n + items.length) (items.foldl f b)
  | [], n, b, hi, _ => ⟨.nil, hi⟩
  | a :: items, n, b, hi, h => by
    obtain ⟨h1, h2⟩ := h n b a hi (by simp) (List.mem_cons_self ..)
    obtain ⟨h3, h4⟩ := forRel_fold enc σ f Inv items (n + 1) (f b a) h2 fun m b a hm hl ha => h m b a hm (by simp only [List.length_cons]; (first | lia | omega)) (List.mem_cons_of_mem _ ha)
    exact ⟨.next h1 h3, by rw [List.length_cons, show n + (items.length + 1) = n + 1 + items.length by (first | lia | omega)]; exact h4⟩

theorem unitsL_length : ∀ (l : List Nat) (i : Nat) (b : Bool), (unitsL i b l).length ≤ l.length + (if b then 1 else 0)
  | [], i, true => by simp [unitsL]
  | [], i, false => by simp [unitsL]
  | c :: r, i, true => by
    have := unitsL_length r (i + 1) false
    simp [unitsL] at this ⊢; (first | lia | omega)
  | c :: r, i, false => by
    unfold unitsL
    split
    · have := unitsL_length r (i + 1) true
      simp at this ⊢; (first | lia | omega)
    · have := unitsL_length r (i + 1) false
      simp at this ⊢; (first | lia | omega)

section
variable {G : Glo} {k : Nat} {sc : Scope} {mv mv' : Option Str} {σ σ' σ₁ : Sig}
theorem pstrs_map : ∀ xs : List Str, pstrs (xs.map .str) = some xs
  | [] => rfl
  | x :: r => by rw [List.map_cons, pstrs, pstrs_map r]; rfl
theorem sum_le {n : Nat} : ∀ {l : List Nat}, (∀ m ∈ l, m ≤ n) → l.sum ≤ l.length * n
  | [], _ => by simp
  | a :: l, h => by
    have := sum_le fun m hm => h m (List.mem_cons_of_mem _ hm)
    have ha := h a (List.mem_cons_self ..)
    rw [List.sum_cons, List.length_cons, Nat.succ_mul]; (first | lia | omega)
/- a body that hands on d -/
noncomputable def SemR (G : Glo) (k : Nat) (sc : Scope) (mv : Option Str) (σ : Sig) (b : List Stmt) (d : PV) : Prop := ∃ mv' σ', SemSs G k sc mv σ b mv' σ' (.ret d)
theorem semR_cons {st : Stmt} {rest : List Stmt} {d : PV} (h : SemS G k sc mv σ st mv' σ' .next) (hr : SemR G k sc mv' σ' rest d) : SemR G k sc mv σ (st :: rest) d := by
  obtain ⟨m, τ, hr⟩ := hr
  exact ⟨m, τ, semSs_cons h hr⟩
theorem semR_consE {st : Stmt} {rest : List Stmt} {d : PV} (h : SemS G k sc mv σ st mv' σ' .next) (e : σ' = σ₁) (hr : SemR G k sc mv' σ₁ rest d) : SemR G k sc mv σ (st :: rest) d := by
  subst e; exact semR_cons h hr
theorem semR_return {e : Expr} {p : Pos} {rest : List Stmt} {d : PV} (he : SemT G k sc mv σ e d) : SemR G k sc mv σ (.Return (some e) p :: rest) d := ⟨_, _, semSs_ret (semS_return he)⟩
theorem semR_if {t : Expr} {b rest : List Stmt} {p : Pos} {d : PV} {c : Bool} (ht : SemB G k sc mv σ t c) (hb : c = true → SemR G k sc mv σ b d) (ho : c = false → SemR G k sc mv σ rest d) : SemR G k sc mv σ (.If t b [] p :: rest) d := by
  cases c with
  | true =>
    obtain ⟨m, τ, h⟩ := hb rfl
    exact ⟨m, τ, semSs_ret (semS_if ht (fun _ => h) fun h => nomatch h)⟩
  | false => exact semR_cons (semS_if ht (fun h => nomatch h) fun _ => semSs_nil) (ho rfl)
theorem semR_forget {b : List Stmt} {d : PV} (h : SemR G k sc mv σ' b d) (hs : ∀ x d, σ'.lookup x = some d → σ.lookup x = some d) : SemR G k sc mv σ b d := by
  obtain ⟨m, τ, h⟩ := h
  exact ⟨m, τ, h.forget hs⟩
end

section
variable {G : Glo} {k : Nat} {sc : Scope} {mv : Option Str}
theorem okl {x : Str} (h : sc.names.lookup x = some .local := by kernel_rfl) (hm : mv ≠ some x := by decide +kernel) : okName sc mv x := ⟨.inl h, hm⟩
theorem okc {x : Str} (h : sc.names.lookup x = some .cell := by kernel_rfl) (hm : mv ≠ some x := by decide +kernel) : okName sc mv x := ⟨.inr h, hm⟩
end

theorem str_eq {l : List Nat} {c : Str} {m : List Nat} (h : c = ⟨m.toArray⟩) : cmpop .Eq (.str ⟨l.toArray⟩) (.str c) = some (decide (l = m)) := by
  subst h
  show some ((⟨l.toArray⟩ : Str) == ⟨m.toArray⟩) = _
  by_cases q : l = m
  · subst q; simp
  · have : (⟨l.toArray⟩ : Str) ≠ ⟨m.toArray⟩ := by
      intro e; injection e with e; injection e with e; exact q e
    simp [q, this]
theorem quote_str : ("\"" : Str) = ⟨[34].toArray⟩ := by decide +kernel

section
variable {G : Glo} {k : Nat}
noncomputable def sStrip (x : Str) (st : StripSt) : Sig := [("addr", .str x), ("start", .int st.start), ("open_pos", popt st.op), ("result", .lst (st.res.map .str))]
noncomputable def upc (u : Int × List Nat) : Sig := [("pos", .int u.1), ("ch", .str ⟨u.2.toArray⟩)]
noncomputable def stripT : Expr := forT (nth (defAt 2).2.1 4)
noncomputable def stripB : List Stmt := forB (nth (defAt 2).2.1 4)

theorem strip_turn {x : Str} (hx : x.length ≤ 2 ^ 9) (st : StripSt) (u : Int × List Nat) (hs : st.res.length ≤ 2 ^ 20) :
    Turn G k (defAt 2).2.2 (some "result") stripT stripB (upu u) (sStrip x st) (sStrip x (stripStep x st u)) .next := by
  refine ⟨_, .tup (xs := ["pos", "ch"]) (by rfl) rfl (fun y hy => ?_), ?_⟩
  · simp only [List.mem_cons, List.not_mem_nil, or_false] at hy
    rcases hy with rfl | rfl <;> exact okl
  have hxs : x.length ≤ 2 ^ 20 := Nat.le_trans hx (by decide)
  refine (semSs_one (semS_if (semB_compare (c := decide (u.2 = [34])) nm sem_str rfl (str_eq quote_str)) (σ' := sStrip x (stripStep x st u) ++ upc u) (fun h => ?_) (fun h => ?_))).weaken (sub_append _ _)
  · have h2 : u.2 = [34] := by simpa using h
    obtain ⟨start, op, res⟩ := st
    cases op with
    | none =>
      have e : stripStep x ⟨start, none, res⟩ u = ⟨start, some u.1, res⟩ := by simp [stripStep, h2]
      rw [e]
      exact semSs_one (semS_if (c := true) (semB_compare nm sem_none rfl rfl) (fun _ => semSs_one ((semS_assign okl nm (fun _ _ => rfl)).eq (by kernel_rfl))) (fun h => by cases h))
    | some o =>
      have e : stripStep x ⟨start, some o, res⟩ u = ⟨u.1 + 1, none, if start ≠ o then res ++ [Txt.slice x (some start) (some o)] else res⟩ := by simp [stripStep, h2]
      rw [e]
      refine semSs_one (semS_if (c := false) (semB_compare nm sem_none rfl rfl) (fun h => by cases h) (fun _ => ?_))
      refine semSs_consE (mv' := some "result") (semS_if (c := start != o) (semB_compare nm nm rfl rfl) (σ' := sStrip x ⟨start, some o, if start ≠ o then res ++ [Txt.slice x (some start) (some o)] else res⟩ ++ upc u) (fun h => ?_) (fun h => ?_)) rfl ?_
      · have h' : start ≠ o := by simpa using h
        rw [if_pos h']
        refine semSs_one ((semS_append (d := .str (Txt.slice x (some start) (some o))) (ds := res.map .str) rfl (by decide +kernel) rfl (by decide +kernel) (sem_slice (lo := some start) (hi := some o) (sp := none) nmT (semP_some nm) (semP_some nm) semP_none ?_) (by simpa using hs)).eq ?_)
        · exact pslice_str hxs
        · rw [show List.map PV.str res ++ [PV.str (Txt.slice x (some start) (some o))] = List.map PV.str (res ++ [Txt.slice x (some start) (some o)]) by simp]
          kernel_rfl
      · have h' : start = o := by simpa using h
        rw [if_neg (by simpa using h')]
        exact semSs_nil
      · generalize (if start ≠ o then res ++ [Txt.slice x (some start) (some o)] else res) = res'
        exact semSs_consE (semS_assign okl (sem_binop nmT sem_int rfl) (fun _ _ => rfl)) rfl (semSs_one ((semS_assign okl sem_none (fun _ _ => rfl)).eq (by kernel_rfl)))
  · have h2 : ¬ u.2 = [34] := by simpa using h
    have e : stripStep x st u = st := by simp [stripStep, h2]
    rw [e]
    exact semSs_nil

theorem strip_ok (hG : G.fns = theFns) {x : Str} (hx : x.length ≤ 2 ^ 9) : CallOK G (k + 2) "_strip_quoted_realnames" [.str x] (.str (stripS x)) := by
  refine callOK_ex (ns := ["addr"]) (by rw [hG]; exact fn_strip) (fun pm cd doc vs h => ?_) (by simp) rfl rfl rfl rfl (fun y hy => ?_) ?_
  · match vs, h with
    | [v], _ => rfl
  · simp at hy; subst hy; exact .inl (by kernel_rfl)
  · cases hc : Txt.contains x ("\"" : Str) with
    | false =>
      have : stripS x = x := by unfold stripS; rw [hc]; rfl
      rw [this]
      exact semR_if (c := true) (semB_compare sem_str nm rfl (by show some (!Txt.contains x _) = _; rw [hc]; rfl)) (fun _ => semR_return nmT) (fun h => by cases h)
    | true =>
      have hs : stripS x = Txt.join "" (stripEnd x ((unitsL 0 false x.cps.toList).foldl (stripStep x) ⟨0, none, []⟩)) := by unfold stripS; rw [hc]; rfl
      rw [hs]
      have hxs : x.length ≤ 2 ^ 20 := Nat.le_trans hx (by decide)
      have hlen : (unitsL 0 false x.cps.toList).length ≤ 2 ^ 9 := Nat.le_trans (unitsL_length _ _ _) (by have h : x.cps.size ≤ 2 ^ 9 := hx; simpa using h)
      obtain ⟨hfor, hinv⟩ := forRel_fold (step := Turn G (k + 1) (defAt 2).2.2 (some "result") stripT stripB) upu (sStrip x) (stripStep x) (fun n st => st.res.length ≤ n ∧ ∀ y ∈ st.res, y.length ≤ x.length) (unitsL 0 false x.cps.toList) 0 ⟨0, none, []⟩ ⟨Nat.le_refl _, fun _ h => nomatch h⟩
        (fun m st u hm hl _ => ⟨strip_turn hx st u (by (first | lia | omega)), by
          unfold stripStep
          split
          · split
            · exact ⟨by have := hm.1; simp only; (first | lia | omega), hm.2⟩
            · simp only
              split
              · refine ⟨by rw [List.length_append]; have := hm.1; simp; (first | lia | omega), fun y hy => ?_⟩
                rcases List.mem_append.mp hy with h | h
                · exact hm.2 y h
                · rw [List.mem_singleton] at h; subst h; exact Txt.slice_le _ _ _
              · exact ⟨by have := hm.1; (first | lia | omega), hm.2⟩
          · exact ⟨by have := hm.1; (first | lia | omega), hm.2⟩⟩)
      generalize (unitsL 0 false x.cps.toList).foldl (stripStep x) ⟨0, none, []⟩ = st at hfor hinv ⊢
      rw [← units_eq] at hfor
      refine semR_if (c := false) (semB_compare sem_str nm rfl (by show some (!Txt.contains x _) = _; rw [hc]; rfl)) (fun h => by cases h) (fun _ => ?_)
      refine semR_cons (semS_assign okl sem_int (fun _ _ => rfl)) (semR_cons (semS_assign okl sem_none (fun _ _ => rfl)) (semR_cons (semS_intro (.inl (by kernel_rfl)) semF_nil (fun _ _ => rfl)) ?_))
      refine semR_consE ((semS_forD (semD_gen (by kernel_rfl) (by rw [hG]; exact fn_iter) rfl nm) rfl hfor)) rfl ?_
      have hb : st.res.length ≤ 2 ^ 9 := by have := hinv.1; (first | lia | omega)
      have hj : ∀ ys : List Str, ys.length ≤ 2 ^ 9 + 1 → (∀ y ∈ ys, y.length ≤ x.length) → SemR G (k + 1) (defAt 2).2.2 (some "result") [("addr", .str x), ("start", .int st.start), ("open_pos", popt st.op), ("result", .lst (ys.map .str))] ((defAt 2).2.1.drop 6) (.str (Txt.join "" ys)) := by
        intro ys h1 h2
        refine semR_return (sem_join rfl (by decide +kernel) nmT (pstrs_map ys) ?_).toT
        have := sum_le (n := 2 ^ 9) (l := ys.map (·.length)) fun m hm => by
          obtain ⟨y, hy, rfl⟩ := List.mem_map.mp hm
          exact Nat.le_trans (h2 y hy) hx
        have e : (Str.ofString "").length = 0 := by decide +kernel
        rw [e, Nat.mul_zero, Nat.add_zero]
        rw [List.length_map] at this
        refine Nat.le_trans this (Nat.le_trans (Nat.mul_le_mul_right _ h1) (by decide))
      refine semR_consE (mv' := some "result") (semS_if (c := decide (st.start < x.length)) (semB_compare nm (sem_len (by kernel_rfl) rfl nmT (by rw [plen, if_pos hxs])) rfl rfl) (σ' := [("addr", .str x), ("start", .int st.start), ("open_pos", popt st.op), ("result", .lst ((stripEnd x st).map .str))]) (fun h => ?_) (fun h => ?_)) rfl (hj _ ?_ ?_)
      · have h' : st.start < x.length := of_decide_eq_true h
        refine semSs_one ((semS_append (d := .str (Txt.slice x (some st.start) none)) (ds := st.res.map .str) rfl (by decide +kernel) rfl (by decide +kernel) (sem_slice (lo := some st.start) (hi := none) (sp := none) nmT (semP_some nm) semP_none semP_none ?_) (by simp; (first | lia | omega))).eq ?_)
        · exact pslice_str hxs
        · have e : stripEnd x st = st.res ++ [Txt.slice x (some st.start) none] := if_pos h'
          rw [e, List.map_append]
          kernel_rfl
      · have h' : ¬ st.start < x.length := of_decide_eq_false h
        have e : stripEnd x st = st.res := if_neg h'
        rw [e]; exact semSs_nil
      · unfold stripEnd; split
        · rw [List.length_append]; simp; (first | lia | omega)
        · (first | lia | omega)
      · intro y hy
        unfold stripEnd at hy; split at hy
        · rcases List.mem_append.mp hy with h | h
          · exact hinv.2 y h
          · rw [List.mem_singleton] at h; subst h; exact Txt.slice_le _ _ _
        · exact hinv.2 y hy
end
end Mine
end

noncomputable section
open PySem PyProof.Rows
set_option Elab.async false
set_option linter.all false
set_option autoImplicit false
set_option maxRecDepth 100000
namespace Mine

theorem lpar_str : ("(" : Str) = ⟨[40].toArray⟩ := by decide +kernel
theorem rpar_str : (")" : Str) = ⟨[41].toArray⟩ := by decide +kernel

section
variable {G : Glo} {k : Nat}
noncomputable def sCheck (y : Str) (d : Int) : Sig := [("addr", .str y), ("opens", .int d)]
noncomputable def checkT : Expr := forT (nth (defAt 3).2.1 2)
noncomputable def checkB : List Stmt := forB (nth (defAt 3).2.1 2)

theorem check_turn {y : Str} (d : Int) (u : Int × List Nat) :
    (∀ d', checkRun d [u] = some d' → Turn G k (defAt 3).2.2 none checkT checkB (upu u) (sCheck y d) (sCheck y d') .next) ∧
    (checkRun d [u] = none → Turn G k (defAt 3).2.2 none checkT checkB (upu u) (sCheck y d) (sCheck y (d - 1)) (.ret (.bool false))) := by
  have tk : ∀ {σ' : Sig} {fl : PFlow}, SemSs G k (defAt 3).2.2 none (sCheck y d ++ upc u) checkB none σ' fl → Turn G k (defAt 3).2.2 none checkT checkB (upu u) (sCheck y d) σ' fl := fun h =>
    ⟨_, .tup (xs := ["pos", "ch"]) (by rfl) rfl (fun y hy => by
      simp only [List.mem_cons, List.not_mem_nil, or_false] at hy
      rcases hy with rfl | rfl <;> exact okl), h⟩
  by_cases h1 : u.2 = [40]
  · refine ⟨fun d' hd => tk ?_, fun hd => ?_⟩
    · have e : checkRun d [u] = some (d + 1) := by rw [checkRun, if_pos h1]; rfl
      rw [e] at hd; cases hd
      refine (semSs_one (semS_if (c := decide (u.2 = [40])) (semB_compare nm sem_str rfl (str_eq lpar_str)) (σ' := sCheck y (d + 1) ++ upc u) (fun _ => ?_) (fun h => by simp [h1] at h))).weaken (sub_append _ _)
      exact semSs_one ((semS_aug okl (by decide +kernel) (by exact rfl) sem_int (.inl ⟨rfl, rfl⟩)).eq (by kernel_rfl))
    · rw [checkRun, if_pos h1] at hd; cases hd
  · by_cases h2 : u.2 = [41]
    · by_cases h3 : d - 1 < 0
      · refine ⟨fun d' hd => ?_, fun hd => tk ?_⟩
        · rw [checkRun, if_neg h1, if_pos h2, if_pos h3] at hd; cases hd
        · refine (semSs_one (semS_if (c := decide (u.2 = [40])) (semB_compare nm sem_str rfl (str_eq lpar_str)) (σ' := sCheck y (d - 1) ++ upc u) (fun h => by simp [h1] at h) (fun _ => ?_))).weaken (sub_append _ _)
          refine semSs_one (semS_if (c := decide (u.2 = [41])) (semB_compare nm sem_str rfl (str_eq rpar_str)) (fun _ => ?_) (fun h => by simp [h2] at h))
          refine semSs_consE (semS_aug okl (by decide +kernel) (by exact rfl) sem_int (.inr ⟨rfl, rfl⟩)) (by kernel_rfl : _ = sCheck y (d - 1) ++ upc u) ?_
          exact semSs_one (semS_if (c := decide (d - 1 < 0)) (semB_compare nm sem_int rfl rfl) (fun _ => semSs_ret (semS_return sem_bool.toT)) (fun h => by simp [h3] at h))
      · refine ⟨fun d' hd => tk ?_, fun hd => ?_⟩
        · have e : checkRun d [u] = some (d - 1) := by rw [checkRun, if_neg h1, if_pos h2, if_neg h3]; rfl
          rw [e] at hd; cases hd
          refine (semSs_one (semS_if (c := decide (u.2 = [40])) (semB_compare nm sem_str rfl (str_eq lpar_str)) (σ' := sCheck y (d - 1) ++ upc u) (fun h => by simp [h1] at h) (fun _ => ?_))).weaken (sub_append _ _)
          refine semSs_one (semS_if (c := decide (u.2 = [41])) (semB_compare nm sem_str rfl (str_eq rpar_str)) (fun _ => ?_) (fun h => by simp [h2] at h))
          refine semSs_consE (semS_aug okl (by decide +kernel) (by exact rfl) sem_int (.inr ⟨rfl, rfl⟩)) (by kernel_rfl : _ = sCheck y (d - 1) ++ upc u) ?_
          exact semSs_one (semS_if (c := decide (d - 1 < 0)) (semB_compare nm sem_int rfl rfl) (fun h => by simp [h3] at h) (fun _ => semSs_nil))
        · rw [checkRun, if_neg h1, if_pos h2, if_neg h3] at hd; cases hd
    · refine ⟨fun d' hd => tk ?_, fun hd => ?_⟩
      · have e : checkRun d [u] = some d := by rw [checkRun, if_neg h1, if_neg h2]; rfl
        rw [e] at hd; cases hd
        refine (semSs_one (semS_if (c := decide (u.2 = [40])) (semB_compare nm sem_str rfl (str_eq lpar_str)) (σ' := sCheck y d ++ upc u) (fun h => by simp [h1] at h) (fun _ => ?_))).weaken (sub_append _ _)
        exact semSs_one (semS_if (c := decide (u.2 = [41])) (semB_compare nm sem_str rfl (str_eq rpar_str)) (fun h => by simp [h2] at h) (fun _ => semSs_nil))
      · rw [checkRun, if_neg h1, if_neg h2] at hd; cases hd

theorem checkRun_cons (d : Int) (u : Int × List Nat) (r : List (Int × List Nat)) : checkRun d (u :: r) = (checkRun d [u]).bind fun d' => checkRun d' r := by
  simp only [checkRun]
  split
  · rfl
  · split
    · split <;> rfl
    · rfl

theorem check_loop {y : Str} : ∀ (us : List (Int × List Nat)) (d : Int),
    (∀ d', checkRun d us = some d' → ForRel (Turn G k (defAt 3).2.2 none checkT checkB) (us.map upu) (sCheck y d) (sCheck y d') .next) ∧
    (checkRun d us = none → ∃ d', ForRel (Turn G k (defAt 3).2.2 none checkT checkB) (us.map upu) (sCheck y d) (sCheck y d') (.ret (.bool false)))
  | [], d => ⟨fun d' h => (by cases h; exact ForRel.nil), fun h => (by cases h)⟩
  | u :: us, d => by
    rw [checkRun_cons]
    obtain ⟨h1, h2⟩ := check_turn (G := G) (k := k) (y := y) d u
    cases h : checkRun d [u] with
    | none => exact ⟨fun d' h => (by cases h), fun _ => ⟨_, .ret (h2 h)⟩⟩
    | some d₁ =>
      obtain ⟨h3, h4⟩ := check_loop (y := y) us d₁
      exact ⟨fun d' h' => .next (h1 d₁ h) (h3 d' h'), fun h' => let ⟨d', q⟩ := h4 h'; ⟨d', .next (h1 d₁ h) q⟩⟩

theorem check_ok (hG : G.fns = theFns) {x : Str} (hx : x.length ≤ 2 ^ 9) : CallOK G (k + 3) "_check_parenthesis" [.str x] (.bool (checkS x)) := by
  refine callOK_ex (ns := ["addr"]) (by rw [hG]; exact fn_check) (fun pm cd doc vs h => ?_) (by simp) rfl rfl rfl rfl (fun y hy => ?_) ?_
  · match vs, h with
    | [v], _ => rfl
  · simp at hy; subst hy; exact .inl (by kernel_rfl)
  · show SemR _ _ _ _ _ _ _
    refine semR_cons (semS_assign okl (sem_call (by kernel_rfl) (by decide +kernel) (by rw [hG]; exact fn_strip) rfl (semEs_cons rfl nm semEs_nil) (strip_ok hG hx)) (fun _ _ => rfl)) ?_
    refine semR_consE (semS_assign okl sem_int (fun _ _ => rfl)) (by kernel_rfl : _ = sCheck (stripS x) 0) ?_
    obtain ⟨h1, h2⟩ := check_loop (G := G) (k := k + 2) (y := stripS x) (unitsL 0 false (stripS x).cps.toList) 0
    rw [← units_eq] at h1 h2
    unfold checkS
    cases hc : checkRun 0 (unitsL 0 false (stripS x).cps.toList) with
    | none =>
      obtain ⟨d', q⟩ := h2 hc
      exact ⟨_, _, semSs_ret (semS_forD (semD_gen (by kernel_rfl) (by rw [hG]; exact fn_iter) rfl nm) rfl q)⟩
    | some d' =>
      exact semR_cons (semS_forD (semD_gen (by kernel_rfl) (by rw [hG]; exact fn_iter) rfl nm) rfl (h1 d' hc)) (semR_return (sem_compare nm sem_int rfl rfl).toT)
end
end Mine
end

noncomputable section
open PySem PyProof.Rows
set_option Elab.async false
set_option linter.all false
set_option autoImplicit false
set_option maxRecDepth 100000
namespace Mine

noncomputable def strL (l : List Nat) : PV := .str ⟨l.toArray⟩
noncomputable def encM (m : Int × Int × Int) : PV := .tup [.int m.1, .int m.2.1, .int m.2.2]
noncomputable def sMarks (x : Str) (st : MarkSt) : Sig := [("text", .str x), ("end", .int st.fin), ("quoted", .bool st.quoted), ("marks", .lst (st.marks.map encM))]
noncomputable def upm (u : Int × List Nat) : Sig := [("place", .int u.1), ("unit", strL u.2)]
noncomputable def upf (fs : List (List Nat)) : Sig := [("found", .lst (fs.map strL))]
noncomputable def marksT' : Expr := forT (nth (defAt 57).2.1 1)
noncomputable def marksB : List Stmt := forB (nth (defAt 57).2.1 1)

noncomputable def elt0 : Expr → Expr
  | .ListComp e _ _ _ => e
  | e => e
noncomputable def scope0 : Expr → Scope
  | .ListComp _ _ s _ => s
  | _ => ⟨.function, [], false, false, []⟩
noncomputable def ifs0 : Expr → List Expr
  | .ListComp _ [⟨_, _, l, _⟩] _ _ => l
  | _ => []
noncomputable def rhs : Stmt → Expr
  | .Assign _ e _ => e
  | _ => .Constant .none 0 noPos
noncomputable def ifB : Stmt → List Stmt
  | .If _ b _ _ => b
  | _ => []
noncomputable def ifE : Stmt → List Stmt
  | .If _ _ b _ => b
  | _ => []
noncomputable def marksAsg : Stmt := nth (ifB (nth (ifE (nth marksB 0)) 0)) 0
noncomputable def marksComp : Expr := rhs marksAsg

theorem compRel_filter {α : Type} {test : PV → Bool → Prop} {elt : PV → PV → Prop} (enc : α → PV) (g : α → Option PV) : ∀ l : List α,
    (∀ a ∈ l, (∃ e, g a = some e ∧ test (enc a) true ∧ elt (enc a) e) ∨ (g a = none ∧ test (enc a) false)) → CompRel test elt (l.map enc) (l.filterMap g)
  | [], _ => .nil
  | a :: l, h => by
    have ih := compRel_filter enc g l fun b hb => h b (List.mem_cons_of_mem _ hb)
    rcases h a (List.mem_cons_self ..) with ⟨e, h1, h2, h3⟩ | ⟨h1, h2⟩
    · rw [List.map_cons, List.filterMap_cons, h1]; exact .take h2 h3 ih
    · rw [List.map_cons, List.filterMap_cons, h1]; exact .skip h2 ih

theorem str_eta (y : Str) : (⟨y.cps.toList.toArray⟩ : Str) = y := by simp
theorem tok_lookup' (y : Str) : Spec.lookup (.str y) tokD = (tokI y.cps.toList).map PyData.int := by
  rw [← tok_lookup, str_eta]

theorem swaps_comp {elt : Expr} {gens : List Comprehension} {scope sc : Scope} {pos p : Pos} {t : Str} {line : Nat} (hk : sc.kind = .function) (hb : (sc.names.lookup t == some .local && p.line == pos.line && !(scope.names.any fun (n, k) => n == t && (k == .local || k == .cell))) = true) :
    ∀ env : Env, env.scope = sc → swapsWith (.ListComp elt gens scope pos) (some (.Name t p)) line env = pure true := by
  intro env h
  subst h
  have e : env.blockKind = .function := by unfold Env.blockKind; rw [hk]; rfl
  show pure (env.blockKind == .function && env.kindOf t == some .local && p.line == pos.line && !(scope.names.any fun (n, k) => n == t && (k == .local || k == .cell))) = pure true
  rw [e]
  show pure (true && env.scope.names.lookup t == some .local && p.line == pos.line && !(scope.names.any fun (n, k) => n == t && (k == .local || k == .cell))) = pure true
  rw [Bool.true_and, hb]

noncomputable def env0 (sc : Scope) : Env := envOfC "f" sc 0 0 .none
theorem swapped_env {t : List Expr} {v : Expr} {sc : Scope} {r : Sem (Option (List Str))} (h0 : swappedStores t v (env0 sc) = r) : ∀ env : Env, env.scope = sc → swappedStores t v env = r := by
  intro env h
  rw [← h0]
  unfold swappedStores Env.blockKind Env.kindOf
  rw [h]
  rfl

section
variable {G : Glo} {k : Nat}

noncomputable def σc (x : Str) (p : Int) : Sig := [("text", .str x), ("place", .int p)]

noncomputable def scopeB (scope sc : Scope) (x : Str) : Bool :=
  scope.names.all (fun y => y.2 != NameKind.cell) && scope.names.all (fun y => y.2 != NameKind.local || scope.names.lookup y.1 == some NameKind.local) && scope.names.lookup x == some NameKind.local &&
  scope.names.all (fun y => y.2 != NameKind.free || sc.names.lookup y.1 == some NameKind.cell)
noncomputable def captB (scope sc : Scope) (mv : Option Str) (ns : List Str) : Bool := ns.all fun y => mv != some y && scope.names.contains (y, NameKind.free) && (relabelS scope sc).names.lookup y == some NameKind.cell
theorem lookup_name : ∀ {σ : Sig} {x : Str} {d : PV}, σ.lookup x = some d → x ∈ σ.map (·.1)
  | (y, e) :: r, x, d, h => by
    by_cases hx : x = y
    · subst hx; exact List.mem_cons_self ..
    · have hb : (x == y) = false := by simpa using hx
      rw [List.lookup, hb] at h
      exact List.mem_cons_of_mem _ (lookup_name h)
theorem compScope_of {scope sc : Scope} {mv : Option Str} {σ σc : Sig} {x : Str} (hk : scope.kind = .function) (hf : sc.kind = .function) (hB : scopeB scope sc x = true) (hN : captB scope sc mv (σc.map (·.1)) = true)
    (hc : ∀ y d, σc.lookup y = some d → σ.lookup y = some d) : CompScope scope sc mv σ σc x := by
  unfold scopeB at hB
  simp only [Bool.and_eq_true, List.all_eq_true] at hB
  obtain ⟨⟨⟨h1, h2⟩, h3⟩, h4⟩ := hB
  refine ⟨hk, fun y hy => by simpa using h1 y hy, fun y hy e => ?_, by simpa using h3, fun n hn => ?_, fun y d e => ?_, hf⟩
  · have := h2 y hy
    rw [e] at this; simpa using this
  · have := h4 _ hn
    simpa using this
  · unfold captB at hN
    rw [List.all_eq_true] at hN
    have := hN y (lookup_name e)
    simp only [Bool.and_eq_true] at this
    obtain ⟨⟨h5, h6⟩, h7⟩ := this
    exact ⟨hc y d e, by simpa using h5, by simpa using h6, by simpa using h7⟩
theorem sub_two {a b : Str} {p q : PV} {σ : Sig} (h1 : σ.lookup a = some p) (h2 : σ.lookup b = some q) : ∀ y d, ([(a, p), (b, q)] : Sig).lookup y = some d → σ.lookup y = some d := by
  intro y d h
  simp only [List.lookup] at h
  split at h
  · rename_i e; have : y = a := by simpa using e
    subst this; cases h; exact h1
  · split at h
    · rename_i e; have : y = b := by simpa using e
      subst this; cases h; exact h2
    · cases h
theorem sub_one {a : Str} {p : PV} {σ : Sig} (h1 : σ.lookup a = some p) : ∀ y d, ([(a, p)] : Sig).lookup y = some d → σ.lookup y = some d := by
  intro y d h
  simp only [List.lookup] at h
  split at h
  · rename_i e; have : y = a := by simpa using e
    subst this; cases h; exact h1
  · cases h

theorem free_two {scope : Scope} {a b : Str} {p q : PV} {σ : Sig} (h1 : σ.lookup a = some p) (h2 : σ.lookup b = some q) (hB : scope.names.all (fun y => y.2 != NameKind.free || y.1 == a || y.1 == b) = true) :
    ∀ n, (n, NameKind.free) ∈ scope.names → ∃ d, σ.lookup n = some d := by
  intro n hn
  have := List.all_eq_true.mp hB _ hn
  simp at this
  rcases this with rfl | rfl
  · exact ⟨_, h1⟩
  · exact ⟨_, h2⟩
theorem free_one {scope : Scope} {a : Str} {p : PV} {σ : Sig} (h1 : σ.lookup a = some p) (hB : scope.names.all (fun y => y.2 != NameKind.free || y.1 == a) = true) :
    ∀ n, (n, NameKind.free) ∈ scope.names → ∃ d, σ.lookup n = some d := by
  intro n hn
  have := List.all_eq_true.mp hB _ hn
  simp at this
  subst this; exact ⟨_, h1⟩
theorem free_none {scope : Scope} {σ : Sig} (hB : scope.names.all (fun y => y.2 != NameKind.free) = true) :
    ∀ n, (n, NameKind.free) ∈ scope.names → ∃ d, σ.lookup n = some d := by
  intro n hn
  have := List.all_eq_true.mp hB _ hn
  simp at this

theorem marks_found (hT : G.tok = tokD) {x : Str} (hx : x.length ≤ 2 ^ 20) (st : MarkSt) (u : Int × List Nat) : SemS G k (defAt 57).2.2 (some "marks") (sMarks x st ++ upm u) marksAsg (some "marks") (put (sMarks x st ++ upm u) "found" (.lst ((foundS x u.1).map strL))) .next := by
  refine semS_assign_comp okl (ds := [.int 1, .int 2, .int 3]) (semI_tuple (sem_tuple (semEs_cons rfl sem_int (semEs_cons rfl sem_int (semEs_cons rfl sem_int semEs_nil))) (by simp))) rfl
    (compScope_of (σc := σc x u.1) (by kernel_rfl) (by kernel_rfl) (by kernel_rfl) (by kernel_rfl) (sub_two (by exact rfl) (by exact rfl))) (free_two (a := "text") (b := "place") (by exact rfl) (by exact rfl) (by kernel_rfl)) (by simp) (swaps_comp (by kernel_rfl) (by kernel_rfl)) ?_
  have e1 : ([.int 1, .int 2, .int 3] : List PV) = ([1, 2, 3] : List Int).map PV.int := rfl
  have e2 : (foundS x u.1).map strL = ([1, 2, 3] : List Int).filterMap fun k => if (tokI (Txt.slice x (some u.1) (some (u.1 + k))).cps.toList).isSome then some (.str (Txt.slice x (some u.1) (some (u.1 + k)))) else none := by
    unfold foundS
    rw [List.map_filterMap]
    congr 1; funext k
    split
    · show some (PV.str _) = _; rw [str_eta]
    · rfl
  rw [e1, e2]
  refine compRel_filter PV.int _ _ fun i _ => ?_
  have ht : ∀ {c : Expr} {b : Bool}, SemB G k (relabelS (scope0 marksComp) (defAt 57).2.2) none (put (σc x u.1) "k" (.int i)) c b → SemTests G k (relabelS (scope0 marksComp) (defAt 57).2.2) (put (σc x u.1) "k" (.int i)) [c] b := fun h => h
  have hsl : ∀ {mv : Option Str}, pslice (.str x) (some u.1) (some (u.1 + i)) none = some (.str (Txt.slice x (some u.1) (some (u.1 + i)))) := pslice_str hx
  have hb : (Spec.lookup (.str (Txt.slice x (some u.1) (some (u.1 + i)))) G.tok).isSome = (tokI (Txt.slice x (some u.1) (some (u.1 + i))).cps.toList).isSome := by rw [hT, tok_lookup']; simp
  have test : ∀ b, (tokI (Txt.slice x (some u.1) (some (u.1 + i))).cps.toList).isSome = b → SemTests G k (relabelS (scope0 marksComp) (defAt 57).2.2) (put (σc x u.1) "k" (.int i)) (ifs0 marksComp) b := by
    intro b e
    rw [← e, ← hb]
    exact ht (semB_in_tok (sem_slice (lo := some u.1) (hi := some (u.1 + i)) (sp := none) (a := .str x) nmT (semP_some nm) (semP_some (sem_binop nmT nm rfl)) semP_none (hsl (mv := none))) (by kernel_rfl))
  cases h : (tokI (Txt.slice x (some u.1) (some (u.1 + i))).cps.toList).isSome with
  | true => exact .inl ⟨_, rfl, test _ h, sem_slice (lo := some u.1) (hi := some (u.1 + i)) (sp := none) (a := .str x) nmT (semP_some nm) (semP_some (sem_binop nmT nm rfl)) semP_none (hsl (mv := none))⟩
  | false => exact .inr ⟨rfl, test _ h⟩

theorem plen_str {x : Str} (h : x.length ≤ 2 ^ 20) : plen (.str x) = some (.int x.length) := if_pos h
theorem length_L (l : List Nat) : (⟨l.toArray⟩ : Str).length = l.length := by show l.toArray.size = _; simp
theorem plen_L {l : List Nat} (h : l.length ≤ 2 ^ 20) : plen (strL l) = some (.int l.length) := by
  unfold strL
  rw [plen_str (by rw [length_L]; exact h), length_L]
theorem plen_lst {l : List PV} (h : l.length ≤ 2 ^ 20) : plen (.lst l) = some (.int l.length) := if_pos h
theorem truth_lst {l : List PV} (h : l.length ≤ 2 ^ 20) : truth (.lst l) = some (!l.isEmpty) := if_pos h
theorem item_end {l : List PV} : pitem (.lst l) (.int (-1)) = l.getLast? := by
  show (if (0 : Int) ≤ -1 ∧ (-1 : Int) < 2 ^ 62 then l[(-1 : Int).toNat]? else if (-1 : Int) = -1 then l.getLast? else none) = _
  rw [if_neg (by decide), if_pos rfl]

theorem foundS_len (x : Str) (p : Int) : (foundS x p).length ≤ 3 := Nat.le_trans (List.length_filterMap_le _ _) (by simp)
theorem foundS_tok {x : Str} {p : Int} {f : List Nat} (h : f ∈ foundS x p) : f.length ≤ x.length ∧ (tokI f).isSome = true := by
  unfold foundS at h
  obtain ⟨k, _, h⟩ := List.mem_filterMap.mp h
  split at h
  · rename_i q; cases h
    exact ⟨Txt.slice_le _ _ _, q⟩
  · cases h

theorem quote_eq (l : List Nat) : cmpop .Eq (.str ⟨l.toArray⟩) (.str ("\"" : Str)) = some (decide (l = [34])) := str_eq quote_str

theorem sMarks_more {x : Str} {m : List (Int × Int × Int)} {a : Int × Int × Int} {q : Bool} {f : Int} : sMarks x ⟨m ++ [a], q, f⟩ = ([("text", .str x), ("end", .int f), ("quoted", .bool q), ("marks", .lst (m.map encM ++ [encM a]))] : Sig) := by
  unfold sMarks
  rw [List.map_append]
  rfl
theorem markStep_some {x : Str} {st : MarkSt} {u : Int × List Nat} {f : List Nat} {n : Int} (h2 : ¬ u.2 = [34]) (h : (u.2.length == 1 && !st.quoted && decide (st.fin ≤ u.1)) = true) (hl : (foundS x u.1).getLast? = some f) (hn : tokI f = some n) :
    markStep x st u = ⟨if (n == 7 || n == 8) = true then st.marks else st.marks ++ [(u.1, u.1 + f.length, n)], st.quoted, u.1 + f.length⟩ := by
  unfold markStep
  rw [if_neg h2, if_pos h, hl, ← Option.getD_some (a := n) (b := 0), ← hn]
theorem markStep_none {x : Str} {st : MarkSt} {u : Int × List Nat} (h2 : ¬ u.2 = [34]) (h : (u.2.length == 1 && !st.quoted && decide (st.fin ≤ u.1)) = true) (hl : foundS x u.1 = []) : markStep x st u = st := by
  unfold markStep
  rw [if_neg h2, if_pos h, hl]
  rfl

theorem marks_turn (hT : G.tok = tokD) {x : Str} (hx : x.length ≤ 2 ^ 9) (st : MarkSt) (u : Int × List Nat) (hu : u.2.length ≤ 2) (hs : st.marks.length ≤ 2 ^ 20) :
    Turn G k (defAt 57).2.2 (some "marks") marksT' marksB (upu u) (sMarks x st) (sMarks x (markStep x st u)) .next := by
  refine ⟨_, .tup (xs := ["place", "unit"]) (by rfl) rfl (fun y hy => ?_), ?_⟩
  · simp only [List.mem_cons, List.not_mem_nil, or_false] at hy
    rcases hy with rfl | rfl
    · exact okc
    · exact okl
  show SemSs G k (defAt 57).2.2 (some "marks") (sMarks x st ++ upm u) marksB (some "marks") (sMarks x (markStep x st u)) .next
  have hxs : x.length ≤ 2 ^ 20 := Nat.le_trans hx (by decide)
  have hul : u.2.length ≤ 2 ^ 20 := Nat.le_trans hu (by decide)
  refine semSs_one (semS_if (c := decide (u.2 = [34])) (semB_compare nm sem_str rfl (quote_eq u.2)) (fun h => ?_) (fun h => ?_))
  · have h2 : u.2 = [34] := of_decide_eq_true h
    have e : markStep x st u = ⟨st.marks, !st.quoted, st.fin⟩ := if_pos h2
    rw [e]
    exact (semSs_one ((semS_assign okl (sem_not nmT (by exact rfl)) (fun _ _ => rfl)).eq (by kernel_rfl : _ = sMarks x ⟨st.marks, !st.quoted, st.fin⟩ ++ upm u))).weaken (sub_append _ _)
  · have h2 : ¬ u.2 = [34] := of_decide_eq_false h
    have hlen : plen (strL u.2) = some (.int u.2.length) := plen_L hul
    refine semSs_one (semS_if (c := u.2.length == 1 && !st.quoted && decide (st.fin ≤ u.1)) ?_ (fun h => ?_) (fun h => ?_))
    · have hI : ((u.2.length : Int) == 1) = (u.2.length == 1) := by
        by_cases q : u.2.length = 1
        · simp [q]
        · have : ¬ ((u.2.length : Int) = 1) := by (first | lia | omega)
          rw [beq_eq_false_iff_ne.mpr this, beq_eq_false_iff_ne.mpr q]
      exact semB_and (b := (u.2.length == 1)) (semB_compare (sem_len (by kernel_rfl) rfl nmT hlen) sem_int rfl (by rw [← hI]; rfl))
        (fun h1 => semB_and (b := !st.quoted) (semB_not (semB_plain nmT rfl (fun _ _ => rfl)))
          (fun h2 => semB_and (b := decide (st.fin ≤ u.1)) (semB_compare nm nm rfl rfl) (fun h3 => by rw [h1, h2, h3]; exact semB_and_nil) (fun h3 => by rw [h3, Bool.and_false]))
          (fun h2 => by rw [h2, Bool.and_false, Bool.false_and]))
        (fun h1 => by rw [h1, Bool.false_and, Bool.false_and])
    · refine semSs_consE (σ₁ := sMarks x st ++ upm u ++ upf (foundS x u.1)) (marks_found hT hxs st u) (by kernel_rfl) ?_
      have e0 := markStep_none (x := x) h2 h
      have e1 := fun f n => markStep_some (x := x) (f := f) (n := n) h2 h
      have hfl := foundS_len x u.1
      have hft := fun f h => foundS_tok (x := x) (p := u.1) (f := f) h
      generalize foundS x u.1 = fs at hfl hft e0 e1 ⊢
      have htr : truth (.lst (fs.map strL)) = some (!fs.isEmpty) := by rw [truth_lst (by rw [List.length_map]; (first | lia | omega))]; cases fs <;> rfl
      refine semSs_one (semS_if (c := !fs.isEmpty) (semB_plain nmT htr (fun _ _ => rfl)) (fun hf => ?_) (fun hf => ?_))
      · obtain ⟨f, hl⟩ : ∃ f, fs.getLast? = some f := by
          cases fs with
          | nil => cases hf
          | cons a r => exact ⟨_, List.getLast?_eq_some_getLast (by simp)⟩
        obtain ⟨hf1, hf2⟩ := hft f (List.mem_of_getLast? hl)
        obtain ⟨n, hn⟩ := Option.isSome_iff_exists.mp hf2
        have hi : pitem (.lst (fs.map strL)) (.int (-1)) = some (strL f) := by rw [item_end, List.getLast?_map, hl]; rfl
        have hlast : ∀ {σ : Sig} {p q r t : Pos} {c : Nat}, σ.lookup ("found" : Str) = some (.lst (fs.map strL)) → SemE G k (defAt 57).2.2 (some "marks") σ (.Subscript (.Name ("found" : Str) p) (.UnaryOp .USub (.Constant (.int 1) c q) r) t) (strL f) := fun h => sem_item (nmT h) (sem_neg sem_int) hi
        have htok : Spec.lookup (.str ⟨f.toArray⟩) G.tok = some (.int n) := by rw [hT, tok_lookup, hn]; rfl
        rw [e1 f n hl hn]
        have hle : f.length ≤ 2 ^ 20 := Nat.le_trans hf1 hxs
        refine semSs_consE (σ₁ := sMarks x ⟨st.marks, st.quoted, u.1 + f.length⟩ ++ upm u ++ upf fs) (semS_assign okl (sem_binop nmT (sem_len (by kernel_rfl) rfl (hlast (by exact rfl)).toT (plen_L hle)) rfl) (fun _ _ => rfl)) (by kernel_rfl) ?_
        have hcmp : cmpop .NotIn (.int n) (.tup [.int 7, .int 8]) = some (!(n == 7 || n == 8)) := by
          show some (!([7, 8] : List Int).contains n) = _
          simp only [List.contains, List.elem]
          cases n == 7 <;> cases n == 8 <;> rfl
        refine (semSs_one (semS_if (c := !(n == 7 || n == 8)) (semB_compare (sem_item_tok (hlast (by exact rfl)) (by kernel_rfl) htok) (sem_tuple (semEs_cons rfl sem_int (semEs_cons rfl sem_int semEs_nil)) (by simp)) rfl hcmp)
          (σ' := sMarks x ⟨if (n == 7 || n == 8) = true then st.marks else st.marks ++ [(u.1, u.1 + f.length, n)], st.quoted, u.1 + f.length⟩ ++ upm u ++ upf fs) (fun hc => ?_) (fun hc => ?_))).weaken (sub_append _ _)
        · have hc' : ¬ (n == 7 || n == 8) = true := by simpa using hc
          rw [if_neg hc']
          refine semSs_one ((semS_append (ds := st.marks.map encM) (by exact rfl) (by decide +kernel) rfl (by decide +kernel) (sem_tuple (semEs_cons rfl nm (semEs_cons rfl nm (semEs_cons rfl (sem_item_tok (hlast (by exact rfl)) (by kernel_rfl) htok) semEs_nil))) (by simp)) (by rw [List.length_map]; exact hs)).eq ?_)
          rw [sMarks_more]
          kernel_rfl
        · have hc' : (n == 7 || n == 8) = true := by revert hc; cases (n == 7 || n == 8) <;> simp
          rw [if_pos hc']
          exact semSs_nil
      · have : fs = [] := by cases fs with
          | nil => rfl
          | cons a r => cases hf
        subst this
        rw [e0 rfl]
        exact (semSs_nil (σ := sMarks x st ++ upm u ++ upf [])).weaken (sub_append _ _)
    · have e : markStep x st u = st := by
        unfold markStep
        rw [if_neg h2, if_neg (by rw [h]; nofun)]
      rw [e]
      exact (semSs_nil (σ := sMarks x st ++ upm u)).weaken (sub_append _ _)

theorem unitsL_len : ∀ (l : List Nat) (i : Nat) (b : Bool) (u : Int × List Nat), u ∈ unitsL i b l → u.2.length ≤ 2
  | [], i, true, u, h => by simp [unitsL] at h; subst h; simp
  | [], i, false, u, h => by simp [unitsL] at h
  | c :: r, i, true, u, h => by
    rw [unitsL] at h
    rcases List.mem_cons.mp h with rfl | h
    · simp
    · exact unitsL_len r _ _ u h
  | c :: r, i, false, u, h => by
    rw [unitsL] at h
    split at h
    · exact unitsL_len r _ _ u h
    · rcases List.mem_cons.mp h with rfl | h
      · simp
      · exact unitsL_len r _ _ u h

theorem markStep_len (x : Str) (st : MarkSt) (u : Int × List Nat) : (markStep x st u).marks.length ≤ st.marks.length + 1 := by
  unfold markStep
  split
  · simp
  · split
    · split
      · (first | lia | omega)
      · simp only []
        split
        · (first | lia | omega)
        · rw [List.length_append]; simp
    · (first | lia | omega)

theorem marks_ok (hG : G.fns = theFns) (hT : G.tok = tokD) {x : Str} (hx : x.length ≤ 2 ^ 9) : CallOK G (k + 2) "_law_marks" [.str x] (.lst ((marksS x).map encM)) := by
  refine callOK_ex (ns := ["text"]) (by rw [hG]; exact fn_marks) (fun pm cd doc vs h => ?_) (by simp) rfl rfl rfl rfl (fun y hy => ?_) ?_
  · match vs, h with
    | [v], _ => rfl
  · simp at hy; subst hy; exact .inr (by kernel_rfl)
  · show SemR _ _ _ _ _ _ _
    have hlen : (unitsL 0 false x.cps.toList).length ≤ 2 ^ 9 := Nat.le_trans (unitsL_length _ _ _) (by have h : x.cps.size ≤ 2 ^ 9 := hx; simpa using h)
    obtain ⟨hfor, hinv⟩ := forRel_fold (step := Turn G (k + 1) (defAt 57).2.2 (some "marks") marksT' marksB) upu (sMarks x) (markStep x) (fun n st => st.marks.length ≤ n) (unitsL 0 false x.cps.toList) 0 ⟨[], false, 0⟩ (Nat.le_refl _)
      (fun m st u hm hl hu => ⟨marks_turn hT hx st u (unitsL_len _ _ _ u hu) (by (first | lia | omega)), by have := markStep_len x st u; (first | lia | omega)⟩)
    rw [← units_eq] at hfor
    refine semR_consE (semS_intro3 (x := "marks") (y := "quoted") (z := "end") (by kernel_rfl) okl okl (by decide +kernel) (by decide +kernel) (fun _ _ => rfl) (swapped_env (by kernel_rfl))) (by kernel_rfl : _ = sMarks x ⟨[], false, 0⟩) ?_
    refine semR_cons (semS_forD (semD_gen (by kernel_rfl) (by rw [hG]; exact fn_iter) rfl nm) rfl hfor) ?_
    exact semR_return nmT
end
end Mine
end

noncomputable section
open PySem PyProof.Rows
set_option Elab.async false
set_option linter.all false
set_option autoImplicit false
set_option maxRecDepth 100000
namespace Mine

noncomputable def encR (L : Lab) : R → PV
  | .leaf i => strL (thingX (L.th i))
  | .sign k => .int (signRow (L.sg k)).2.1

section
variable {G : Glo} {k : Nat}

noncomputable def sRead (x : Str) (ms : List (Int × Int × Int)) (i j : Int) : Sig := [("text", .str x), ("marks", .lst (ms.map encM)), ("i", .int i), ("j", .int j)]
noncomputable def rBody : List Stmt := (defAt 58).2.1
noncomputable def rSc : Scope := (defAt 58).2.2
noncomputable def whT : Stmt → Expr
  | .While t _ _ _ => t
  | _ => .Constant .none 0 noPos
noncomputable def whB : Stmt → List Stmt
  | .While _ b _ _ => b
  | _ => []

theorem tokGet_eq (hT : G.tok = tokD) (l : List Nat) : tokGet G.tok ⟨l.toArray⟩ = some (match tokI l with | some n => .int n | none => .none) := by
  unfold tokGet
  rw [hT, tok_lookup]
  cases tokI l <;> rfl
theorem eq_get (n : Option Int) (m : Int) : cmpop .Eq (match n with | some n => PV.int n | none => PV.none) (.int m) = some (n == some m) := by
  cases n with
  | none => rfl
  | some n =>
    show some (n == m) = some (some n == some m)
    rfl

theorem at_head {x : Str} {A C : List Nat} {c : Nat} {i : Int} (hx : x = ⟨(A ++ (c :: C)).toArray⟩) (hi : i = (A.length : Nat)) (hl : x.length ≤ 2 ^ 9) : pitem (.str x) (.int i) = some (strL [c]) := by
  subst hx hi
  have h : A.length ≤ 2 ^ 9 := by rw [length_L] at hl; simp at hl; (first | lia | omega)
  exact pitem_str (by (first | lia | omega)) (by (first | lia | omega)) (by unfold strAt; simp)

/- the test of the loop -/
theorem read_test (hG : G.fns = theFns) (hT : G.tok = tokD) (L : Lab) {pre ts post : List T} {ms : List (Int × Int × Int)} {x : Str} (hx : x = ⟨(txs L (pre ++ ts ++ post)).toArray⟩) (hl : x.length ≤ 2 ^ 9) (hb : bal ts = true) (hne : ts ≠ []) :
    SemB G (k + 3) rSc none (sRead x ms ((txs L pre).length : Nat) ((txs L (pre ++ ts)).length : Nat)) (whT (nth rBody 0)) (stripQ ts).isSome := by
  obtain ⟨t, r, rfl⟩ : ∃ t r, ts = t :: r := by cases ts with
    | nil => exact absurd rfl hne
    | cons t r => exact ⟨t, r, rfl⟩
  obtain ⟨c, q, e1, h1⟩ := head_tok L t
  obtain ⟨r', t', e0⟩ : ∃ r' t', t :: r = r' ++ [t'] := ⟨_, _, (List.dropLast_concat_getLast (by simp : t :: r ≠ [])).symm⟩
  obtain ⟨q', c', e2, h2⟩ := last_tok L t'
  have hxi : x = ⟨(txs L pre ++ (c :: (q ++ txs L r ++ txs L post))).toArray⟩ := by
    rw [hx]; congr 2
    simp only [txs_append, txs_cons, e1, List.append_assoc, List.cons_append]
  have hxj : x = ⟨((txs L (pre ++ r') ++ q') ++ (c' :: txs L post)).toArray⟩ := by
    rw [hx, e0]; congr 2
    simp only [txs_append, txs_cons, txs_nil, e2, List.append_assoc, List.append_nil, List.cons_append, List.nil_append]
  have hj : ((txs L (pre ++ t :: r)).length : Int) - 1 = ((txs L (pre ++ r') ++ q').length : Nat) := by
    rw [e0]
    simp only [txs_append, txs_cons, txs_nil, e2, List.length_append, List.append_nil, List.length_cons, List.length_nil]
    (first | lia | omega)
  refine semB_and (b := (tokI [c] == some 7)) (semB_compare (sem_get (by kernel_rfl) rfl (by decide +kernel) (sem_item nmT nm (at_head hxi rfl hl)) (tokGet_eq hT [c])) sem_int rfl (eq_get _ _)) (fun g1 => ?_) (fun g1 => ?_)
  · refine semB_and (b := (tokI [c'] == some 8)) (semB_compare (sem_get (by kernel_rfl) rfl (by decide +kernel) (sem_item nmT (sem_binop nmT sem_int rfl) (at_head hxj hj hl)) (tokGet_eq hT [c'])) sem_int rfl (eq_get _ _)) (fun g2 => ?_) (fun g2 => ?_)
    · rw [h1] at g1
      have : t = T.o := of_decide_eq_true g1
      subst this
      have hright : t' = T.c ∨ ∃ i, t' = T.th i ∧ tx L t' = [92, 41] := by
        rcases h2 with ⟨_, h2⟩ | ⟨h2, _⟩
        · exact h2
        · rw [h2] at g2; cases g2
      obtain ⟨m, rfl, hr⟩ : ∃ m, r' = T.o :: m ∧ r = m ++ [t'] := by
        cases r' with
        | nil =>
          simp only [List.nil_append, List.cons.injEq] at e0
          obtain ⟨e, _⟩ := e0
          subst e
          rcases hright with h | ⟨i, h, _⟩ <;> cases h
        | cons a m =>
          simp only [List.cons_append, List.cons.injEq] at e0
          exact ⟨m, by rw [e0.1], e0.2⟩
      have hq : Tail q' := by
        rcases hright with h | ⟨i, h, h'⟩
        · subst h
          have : q' ++ [c'] = [] ++ [41] := e2.symm
          rw [List.append_inj_left' this rfl]; exact .none
        · have : q' ++ [c'] = [92] ++ [41] := by rw [← e2, h']; rfl
          rw [List.append_inj_left' this rfl]; exact .back
      have hval : bal m = (stripQ (T.o :: r)).isSome := by
        rw [hr] at hb ⊢
        rcases hright with h | ⟨i, h, _⟩
        · subst h
          cases q : bal m with
          | true => rw [stripQ_of q]; rfl
          | false => rw [stripQ_not q]; rfl
        · subst h
          rw [bal_inner_th hb]
          cases hs : stripQ (T.o :: (m ++ [T.th i])) with
          | none => rfl
          | some m' =>
            obtain ⟨e3, _⟩ := stripQ_some hs
            simp only [List.cons.injEq, true_and] at e3
            have := List.append_inj_right' e3 rfl
            cases this
      have hsl : Txt.slice x (some ((((txs L pre).length : Nat) : Int) + 1)) (some ((((txs L (pre ++ T.o :: r)).length : Nat) : Int) - 1)) = ⟨(txs L m ++ q').toArray⟩ := by
        have : x = ⟨((txs L pre ++ [40]) ++ ((txs L m ++ q') ++ (c' :: txs L post))).toArray⟩ := by
          rw [hx, hr]; congr 2
          simp only [txs_append, txs_cons, txs_nil, e2, List.append_assoc, List.append_nil, List.cons_append, List.nil_append]
          rfl
        rw [this]
        refine slice_at (by simp) ?_
        rw [hr]
        have ho : (tx L T.o).length = 1 := rfl
        simp only [txs_append, txs_cons, txs_nil, e2, List.length_append, List.append_nil, List.length_cons, List.length_nil, ho]
        (first | lia | omega)
      have hps : pslice (.str x) (some ((((txs L pre).length : Nat) : Int) + 1)) (some ((((txs L (pre ++ T.o :: r)).length : Nat) : Int) - 1)) none = some (.str ⟨(txs L m ++ q').toArray⟩) := by
        rw [← hsl]; exact pslice_str (Nat.le_trans hl (by decide))
      have hlen : (⟨(txs L m ++ q').toArray⟩ : Str).length ≤ 2 ^ 9 := by rw [← hsl]; exact Nat.le_trans (Txt.slice_le _ _ _) hl
      rw [← hval]
      refine semB_and (b := bal m) (semB_plain (sem_call (by kernel_rfl) (by decide +kernel) (by rw [hG]; exact fn_check) rfl (semEs_cons rfl (sem_slice nmT (semP_some (sem_binop nmT sem_int rfl)) (semP_some (sem_binop nmT sem_int rfl)) semP_none hps) semEs_nil) (check_ok hG hlen)).toT (by rw [check_txs L m hq]; rfl) (fun _ _ => rfl)) (fun g3 => by rw [g3]; exact semB_and_nil) id
    · rcases h2 with ⟨h2, _⟩ | ⟨_, h2⟩
      · rw [h2] at g2; cases g2
      · cases hs : stripQ (t :: r) with
        | none => rfl
        | some m =>
          obtain ⟨e3, _⟩ := stripQ_some hs
          rw [e0, ← List.cons_append] at e3
          exact absurd (List.append_inj_right' e3 rfl) (by simpa using h2)
  · rw [h1] at g1
    have : t ≠ T.o := of_decide_eq_false g1
    cases hs : stripQ (t :: r) with
    | none => rfl
    | some m =>
      obtain ⟨e3, _⟩ := stripQ_some hs
      cases e3; exact absurd rfl this

theorem read_strip (hG : G.fns = theFns) (hT : G.tok = tokD) (L : Lab) {ms : List (Int × Int × Int)} {x : Str} (hl : x.length ≤ 2 ^ 9) : ∀ (n : Nat) (pre ts post ts' : List T), x = ⟨(txs L (pre ++ ts ++ post)).toArray⟩ → bal ts = true → stripN n ts = some ts' → ts' ≠ [] →
    ∃ m pre' post', x = ⟨(txs L (pre' ++ ts' ++ post')).toArray⟩ ∧ bal ts' = true ∧
      WhileRel (fun σ b => SemB G (k + 3) rSc none σ (whT (nth rBody 0)) b) (fun σ σ₁ => SemSs G (k + 3) rSc none σ (whB (nth rBody 0)) none σ₁ .next) m (sRead x ms ((txs L pre).length : Nat) ((txs L (pre ++ ts)).length : Nat)) (sRead x ms ((txs L pre').length : Nat) ((txs L (pre' ++ ts')).length : Nat)) ∧
      pre' ++ ts' ++ post' = pre ++ ts ++ post
  | 0, pre, ts, post, ts', hx, hb, h, hne => by cases h
  | n + 1, pre, ts, post, ts', hx, hb, h, hne => by
    have hts : ts ≠ [] := by
      rintro rfl
      have e : stripN (n + 1) [] = some [] := rfl
      rw [e] at h
      exact hne (Option.some.inj h).symm
    have test := read_test (k := k) (ms := ms) hG hT L hx hl hb hts
    unfold stripN at h
    cases hs : stripQ ts with
    | none =>
      rw [hs] at h test
      cases h
      exact ⟨0, pre, post, hx, hb, .stop test, rfl⟩
    | some m =>
      rw [hs] at h test
      obtain ⟨e, hm⟩ := stripQ_some hs
      have e2 : pre ++ ts ++ post = (pre ++ [T.o]) ++ m ++ ([T.c] ++ post) := by rw [e]; simp
      obtain ⟨N, pre', post', h1, h2, h3, h4⟩ := read_strip hG hT L hl n (pre ++ [T.o]) m ([T.c] ++ post) ts' (by rw [hx, e2]) hm h hne
      refine ⟨N + 1, pre', post', h1, h2, .next test ?_ h3, by rw [h4, e2]⟩
      have ho : (tx L T.o).length = 1 := rfl
      have hc : (tx L T.c).length = 1 := rfl
      have i1 : (((txs L (pre ++ [T.o])).length : Nat) : Int) = (((txs L pre).length : Nat) : Int) + 1 := by
        simp only [txs_append, txs_cons, txs_nil, List.length_append, List.append_nil, List.length_nil, ho]; (first | lia | omega)
      have i2 : (((txs L (pre ++ [T.o] ++ m)).length : Nat) : Int) = (((txs L (pre ++ ts)).length : Nat) : Int) - 1 := by
        rw [e]
        simp only [txs_append, txs_cons, txs_nil, List.length_append, List.append_nil, List.length_nil, ho, hc]; (first | lia | omega)
      rw [i1, i2]
      refine semSs_one ((semS_unpack (xs := ["i", "j"]) (by rfl) rfl (fun y hy => ?_) (sem_tuple (semEs_cons rfl (sem_binop nmT sem_int rfl) (semEs_cons rfl (sem_binop nmT sem_int rfl) semEs_nil)) (by simp)) (fun _ _ => rfl) (swapped_env (by kernel_rfl))).eq (by kernel_rfl))
      simp only [List.mem_cons, List.not_mem_nil, or_false] at hy
      rcases hy with rfl | rfl <;> exact okc
end
end Mine
end

noncomputable section
open PySem PyProof.Rows
set_option Elab.async false
set_option linter.all false
set_option autoImplicit false
set_option maxRecDepth 100000
namespace Mine

theorem sub_cons {a : Str} {p : PV} {σ τ : Sig} (h1 : σ.lookup a = some p) (h2 : ∀ y d, τ.lookup y = some d → σ.lookup y = some d) : ∀ y d, ((a, p) :: τ).lookup y = some d → σ.lookup y = some d := by
  intro y d h
  rw [List.lookup] at h
  split at h
  · rename_i e; have : y = a := by simpa using e
    subst this; cases h; exact h1
  · exact h2 y d h
theorem sub_nil {σ : Sig} : ∀ y d, ([] : Sig).lookup y = some d → σ.lookup y = some d := fun _ _ h => nomatch h
theorem free_of {scope : Scope} {σ τ : Sig} (h : ∀ y d, τ.lookup y = some d → σ.lookup y = some d) (hB : scope.names.all (fun y => y.2 != NameKind.free || (τ.lookup y.1).isSome) = true) :
    ∀ n, (n, NameKind.free) ∈ scope.names → ∃ d, σ.lookup n = some d := by
  intro n hn
  have := List.all_eq_true.mp hB _ hn
  have h2 : (NameKind.free != NameKind.free || (τ.lookup n).isSome) = true := this
  rw [bne_self_eq_false, Bool.false_or] at h2
  obtain ⟨d, hd⟩ := Option.isSome_iff_exists.mp h2
  exact ⟨d, h n d hd⟩
theorem filterMap_ite {α β : Type} (p : α → Bool) (f : α → β) : ∀ l : List α, (l.filterMap fun a => if p a then some (f a) else none) = (l.filter p).map f
  | [] => rfl
  | a :: l => by
    rw [List.filterMap_cons, List.filter_cons]
    cases p a <;> simp [filterMap_ite p f l]

section
variable {G : Glo} {k : Nat}
theorem binop_lst {a b : List PV} (h : a.length + b.length ≤ 2 ^ 20) : binop .Add (.lst a) (.lst b) = some (.lst (a ++ b)) := if_pos h
noncomputable def topsAsg : Stmt := nth rBody 1
noncomputable def topsComp : Expr := rhs topsAsg
noncomputable def σt (x : Str) (i j : Int) : Sig := [("text", .str x), ("i", .int i), ("j", .int j)]
theorem σt_sub {x : Str} {ms : List (Int × Int × Int)} {i j : Int} : ∀ y d, (σt x i j).lookup y = some d → (sRead x ms i j).lookup y = some d :=
  sub_cons (by exact rfl) (sub_cons (by exact rfl) (sub_cons (by exact rfl) sub_nil))

theorem read_tops (hG : G.fns = theFns) {x : Str} (hl : x.length ≤ 2 ^ 9) {ms : List (Int × Int × Int)} (hm : ms.length ≤ 2 ^ 20) (i j : Int) :
    SemS G (k + 3) rSc none (sRead x ms i j) topsAsg none (put (sRead x ms i j) "tops" (.lst ((ms.filter (isTop x i j)).map encM))) .next := by
  refine semS_assign_comp okl (semI_list nm) rfl
    (compScope_of (σc := σt x i j) (by kernel_rfl) (by kernel_rfl) (by kernel_rfl) (by kernel_rfl) σt_sub) (free_of σt_sub (by kernel_rfl)) (by rw [List.length_map]; exact hm) (swaps_comp (by kernel_rfl) (by kernel_rfl)) ?_
  rw [← filterMap_ite]
  refine compRel_filter encM _ _ fun m _ => ?_
  have ht : ∀ {c : Expr} {b : Bool}, SemB G (k + 3) (relabelS (scope0 topsComp) rSc) none (put (σt x i j) "mark" (encM m)) c b → SemTests G (k + 3) (relabelS (scope0 topsComp) rSc) (put (σt x i j) "mark" (encM m)) [c] b := fun h => h
  have hps : pslice (.str x) (some i) (some m.1) none = some (.str (Txt.slice x (some i) (some m.1))) := pslice_str (Nat.le_trans hl (by decide))
  have test : ∀ b, isTop x i j m = b → SemTests G (k + 3) (relabelS (scope0 topsComp) rSc) (put (σt x i j) "mark" (encM m)) (ifs0 topsComp) b := by
    intro b hb
    rw [← hb]
    refine ht (semB_and (b := decide (i < m.1) && decide (m.1 < j)) (semB_chain nm (sem_item nmT sem_int rfl) nm rfl rfl rfl) (fun g => ?_) (fun g => by unfold isTop; rw [g, Bool.false_and]))
    refine semB_and (b := checkS (Txt.slice x (some i) (some m.1))) (semB_plain (sem_call (by kernel_rfl) (by decide +kernel) (by rw [hG]; exact fn_check) rfl (semEs_cons rfl (sem_slice nmT (semP_some nm) (semP_some (sem_item nmT sem_int rfl)) semP_none hps) semEs_nil) (check_ok hG (Nat.le_trans (Txt.slice_le _ _ _) hl))).toT rfl (fun _ _ => rfl)) (fun g' => ?_) (fun g' => by unfold isTop; rw [g', Bool.and_false])
    have : isTop x i j m = true := by unfold isTop; rw [g, g']; rfl
    rw [this]; exact semB_and_nil
  cases h : isTop x i j m with
  | true => exact .inl ⟨_, rfl, test _ h, nm⟩
  | false => exact .inr ⟨rfl, test _ h⟩

theorem txs_length (L : Lab) : ∀ ts : List T, ts.length ≤ (txs L ts).length
  | [] => Nat.le_refl _
  | t :: ts => by
    have := txs_length L ts
    have h : 0 < (tx L t).length := List.length_pos_iff.mpr (tx_ne L t)
    rw [txs_cons, List.length_append, List.length_cons]; (first | lia | omega)

noncomputable def sTops (x : Str) (ms : List (Int × Int × Int)) (i j : Int) (tops : List (Int × Int × Int)) : Sig := [("text", .str x), ("marks", .lst (ms.map encM)), ("i", .int i), ("j", .int j), ("tops", .lst (tops.map encM))]

theorem read_pick {x : Str} {ms tops : List (Int × Int × Int)} {i j : Int} {a b : Int × Int × Int} {r : Bool} (h1 : tops.head? = some a) (h2 : tops.getLast? = some b) (h3 : (a.2.2 == 35) = r) :
    SemE G k rSc none (sTops x ms i j tops) (rhs (nth rBody 3)) (encM (if r then a else b)) := by
  obtain ⟨r', rfl⟩ : ∃ r', tops = a :: r' := by cases tops with
    | nil => cases h1
    | cons c r' => cases h1; exact ⟨r', rfl⟩
  have h0 : ∀ {σ : Sig} {p q t : Pos} {c : Nat}, σ.lookup ("tops" : Str) = some (.lst ((a :: r').map encM)) → SemE G k rSc none σ (.Subscript (.Name ("tops" : Str) p) (.Constant (.int 0) c q) t) (encM a) := fun h => sem_item (nmT h) sem_int rfl
  have hl : pitem (.lst ((a :: r').map encM)) (.int (-1)) = some (encM b) := by rw [item_end, List.getLast?_map, h2]; rfl
  refine sem_ifexp (c := r) (semB_compare (sem_item (h0 (by exact rfl)).toT sem_int (by exact rfl : pitem (encM a) (.int 2) = some (.int a.2.2))) sem_int rfl (by rw [← h3]; rfl)) (fun h => ?_) (fun h => ?_)
  · rw [h]; exact h0 (by exact rfl)
  · rw [h]; exact sem_item (nmT (by exact rfl)) (sem_neg sem_int) hl

theorem choose_eq (L : Lab) (P : Par) (p : Nat) (x : List T × Nat × List T) (l : List (List T × Nat × List T)) : ∃ b, ((x :: l).map (markOf L p)).getLast? = some b ∧ markOf L p (choose P x l) = if P.r6 x.2.1 then markOf L p x else b := by
  refine ⟨markOf L p ((x :: l).getLast (by simp)), by rw [List.getLast?_map, List.getLast?_eq_some_getLast (by simp)]; rfl, ?_⟩
  unfold choose
  cases P.r6 x.2.1 <;> rfl

theorem read_ok (hG : G.fns = theFns) (hT : G.tok = tokD) (L : Lab) (P : Par) (hP : ∀ i, P.r6 i = ((signRow (L.sg i)).2.1 == 35)) {x : Str} (hl : x.length ≤ 2 ^ 9) {ms : List (Int × Int × Int)} (hms : ms.length ≤ 2 ^ 20)
    {whole : List T} (hxw : x = ⟨(txs L whole).toArray⟩) (hmk : ∀ pre ts post, pre ++ ts ++ post = whole → ms.filter (isTop x ((txs L pre).length : Nat) ((txs L (pre ++ ts)).length : Nat)) = (topsT [] ts).map (markOf L (txs L pre).length)) :
    ∀ (f : Nat) (pre ts post : List T) (r : List R), pre ++ ts ++ post = whole → bal ts = true → readT P f ts = some r →
      CallOK G (k + 3 + f) "_law_read" [.str x, .lst (ms.map encM), .int ((txs L pre).length : Nat), .int ((txs L (pre ++ ts)).length : Nat)] (.lst (r.map (encR L)))
  | 0, pre, ts, post, r, hx, hb, h => by cases h
  | f + 1, pre, ts, post, r, hx, hb, h => by
    unfold readT at h
    cases hs : stripN 8 ts with
    | none => rw [hs] at h; cases h
    | some ts' =>
    rw [hs] at h
    dsimp only at h
    have hne : ts' ≠ [] := by rintro rfl; cases h
    obtain ⟨N, pre', post', hx', hb', hw, hwhole⟩ := read_strip (k := k + f) (ms := ms) hG hT L hl 8 pre ts post ts' (by rw [hxw, hx]) hb hs hne
    rw [show k + 3 + (f + 1) = (k + f + 3) + 1 by (first | lia | omega)]
    refine callOK_ex (ns := ["text", "marks", "i", "j"]) (by rw [hG]; exact fn_read) (fun pm cd doc vs h => ?_) (by decide +kernel) rfl rfl rfl rfl (fun y hy => ?_) ?_
    · match vs, h with
      | [a, b, c, d], _ => rfl
    · simp at hy; rcases hy with rfl | rfl | rfl | rfl
      · exact .inr (by kernel_rfl)
      · exact .inl (by kernel_rfl)
      · exact .inr (by kernel_rfl)
      · exact .inr (by kernel_rfl)
    · show SemR _ _ _ _ (sRead x ms ((txs L pre).length : Nat) ((txs L (pre ++ ts)).length : Nat)) _ _
      refine semR_cons (semS_while hw) ?_
      have htops := read_tops (k := k + f) hG hl hms ((txs L pre').length : Nat) ((txs L (pre' ++ ts')).length : Nat)
      rw [hmk pre' ts' post' (by rw [hwhole, hx])] at htops
      refine semR_consE htops (by kernel_rfl : _ = sTops x ms ((txs L pre').length : Nat) ((txs L (pre' ++ ts')).length : Nat) ((topsT [] ts').map (markOf L (txs L pre').length))) ?_
      have htl : (topsT [] ts').length ≤ 2 ^ 20 := by
        have h1 : ((topsT [] ts').map (markOf L (txs L pre').length)).length ≤ ms.length := by rw [← hmk pre' ts' post' (by rw [hwhole, hx])]; exact List.length_filter_le _ _
        rw [List.length_map] at h1; (first | lia | omega)
      have htr : ∀ {tops : List (Int × Int × Int)}, tops.length ≤ 2 ^ 20 → truth (.lst (tops.map encM)) = some (!tops.isEmpty) := fun {tops} h => by
        rw [truth_lst (by rw [List.length_map]; exact h)]; cases tops <;> rfl
      have hl20 : x.length ≤ 2 ^ 20 := Nat.le_trans hl (by decide)
      cases htp : topsT [] ts' with
      | nil =>
        rw [htp] at h
        obtain ⟨i, rfl, rfl⟩ : ∃ i, ts' = [T.th i] ∧ r = [R.leaf i] := by
          dsimp only at h
          split at h
          · cases h; exact ⟨_, rfl, rfl⟩
          · cases h
        have hps : pslice (.str x) (some ((txs L pre').length : Nat)) (some ((txs L (pre' ++ [T.th i])).length : Nat)) none = some (strL (thingX (L.th i))) := by
          have e : x = ⟨(txs L pre' ++ (thingX (L.th i) ++ txs L post')).toArray⟩ := by
            rw [hx']; congr 2
            simp only [txs_append, txs_cons, txs_nil, List.append_assoc, List.append_nil]; rfl
          have e2 : Txt.slice x (some ((txs L pre').length : Nat)) (some ((txs L (pre' ++ [T.th i])).length : Nat)) = ⟨(thingX (L.th i)).toArray⟩ := by
            rw [e]
            refine slice_at rfl ?_
            simp only [txs_append, txs_cons, txs_nil, List.length_append, List.append_nil]; rfl
          rw [pslice_str hl20, e2]; rfl
        exact semR_if (c := true) (semB_not (semB_plain nmT (htr (tops := []) (by simp)) (fun _ _ => rfl))) (fun _ => semR_return (sem_list (semEs_cons rfl (sem_slice nmT (semP_some nm) (semP_some nm) semP_none hps) semEs_nil) (by simp)).toT) (fun h => nomatch h)
      | cons x0 l =>
        rw [htp] at h htl
        dsimp only at h
        cases ha : readT P f (choose P x0 l).1 with
        | none => rw [ha] at h; cases h
        | some a =>
        cases hb2 : readT P f (choose P x0 l).2.2 with
        | none => rw [ha, hb2] at h; cases h
        | some b =>
        rw [ha, hb2] at h
        dsimp only at h
        cases h
        obtain ⟨last, hlast, hch⟩ := choose_eq L P (txs L pre').length x0 l
        obtain ⟨hm1, hm2, _⟩ := topsT_mem ts' [] (choose P x0 l) (by rw [htp]; exact choose_mem P x0 l)
        generalize hc : choose P x0 l = ch at ha hb2 hch hm1 hm2 ⊢
        obtain ⟨lt, kk, rt⟩ := ch
        dsimp only at ha hb2 hm1 hm2 ⊢
        rw [List.nil_append] at hm1
        subst hm1
        refine semR_if (c := false) (semB_not (semB_plain nmT (htr (tops := (x0 :: l).map (markOf L (txs L pre').length)) (by rw [List.length_map]; exact htl)) (fun _ _ => rfl))) (fun h => nomatch h) (fun _ => ?_)
        have hpick := read_pick (G := G) (k := k + f + 3) (x := x) (ms := ms) (i := ((txs L pre').length : Nat)) (j := ((txs L (pre' ++ (lt ++ T.sg kk :: rt))).length : Nat)) (tops := (x0 :: l).map (markOf L (txs L pre').length)) (a := markOf L (txs L pre').length x0) (b := last) (r := P.r6 x0.2.1) rfl hlast (hP _).symm
        rw [← hch] at hpick
        refine semR_cons (semS_unpack (xs := ["place", "end", "number"]) (by rfl) (by rfl) (fun y hy => ?_) hpick (fun _ _ => rfl) (swapped_env (by kernel_rfl))) ?_
        · simp only [List.mem_cons, List.not_mem_nil, or_false] at hy
          rcases hy with rfl | rfl | rfl <;> exact okl
        have hr := readT_len P f _ _ ha
        have hr2 := readT_len P f _ _ hb2
        have hw1 : (pre' ++ (lt ++ T.sg kk :: rt) ++ post').length ≤ 2 ^ 9 := by
          have h1 := txs_length L (pre' ++ (lt ++ T.sg kk :: rt) ++ post')
          rw [hx', length_L] at hl
          (first | lia | omega)
        simp only [List.length_append, List.length_cons] at hw1
        have e1 : pre' ++ (lt ++ T.sg kk :: rt) ++ post' = pre' ++ lt ++ (T.sg kk :: rt ++ post') := by simp
        have e2 : pre' ++ (lt ++ T.sg kk :: rt) ++ post' = (pre' ++ lt ++ [T.sg kk]) ++ rt ++ post' := by simp
        have call1 := read_ok hG hT L P hP hl hms hxw hmk f pre' lt (T.sg kk :: rt ++ post') a (by rw [← e1, hwhole, hx]) hm2 ha
        have call2 := read_ok hG hT L P hP hl hms hxw hmk f (pre' ++ lt ++ [T.sg kk]) rt post' b (by rw [← e2, hwhole, hx]) (bal_rest hb' hm2) hb2
        rw [show k + 3 + f = k + f + 3 by (first | lia | omega)] at call1 call2
        have p1 : (((txs L (pre' ++ lt)).length : Nat) : Int) = (((txs L pre').length + (txs L lt).length : Nat) : Int) := by rw [txs_append, List.length_append]
        have p2 : (((txs L (pre' ++ lt ++ [T.sg kk])).length : Nat) : Int) = (((txs L pre').length + (txs L lt).length + (signRow (L.sg kk)).1.length : Nat) : Int) := by
          simp only [txs_append, txs_cons, txs_nil, List.length_append, List.append_nil]; rfl
        have p3 : pre' ++ lt ++ [T.sg kk] ++ rt = pre' ++ (lt ++ T.sg kk :: rt) := by simp
        rw [p1] at call1
        rw [p2, p3] at call2
        have hfin : (a ++ b ++ [R.sign kk]).map (encR L) = a.map (encR L) ++ b.map (encR L) ++ [.int (signRow (L.sg kk)).2.1] := by simp [encR]
        rw [hfin]
        refine semR_return (sem_binop (sem_binop (a := .lst (a.map (encR L))) (b := .lst (b.map (encR L))) (sem_call (by kernel_rfl) (by decide +kernel) (by rw [hG]; exact fn_read) rfl (semEs_cons rfl nm (semEs_cons rfl nm (semEs_cons rfl nm (semEs_cons rfl nm semEs_nil)))) call1).toT
          (sem_call (by kernel_rfl) (by decide +kernel) (by rw [hG]; exact fn_read) rfl (semEs_cons rfl nm (semEs_cons rfl nm (semEs_cons rfl nm (semEs_cons rfl nm semEs_nil)))) call2) (binop_lst (by simp only [List.length_map]; (first | lia | omega)))).toT
          (sem_list (semEs_cons rfl nm semEs_nil) (by simp)) (binop_lst (by simp only [List.length_append, List.length_map, List.length_cons, List.length_nil]; (first | lia | omega)))).toT
end
end Mine
end

noncomputable section
open PySem PyProof.Rows
set_option Elab.async false
set_option linter.all false
set_option autoImplicit false
set_option maxRecDepth 100000
namespace Mine

noncomputable def encT (L : Lab) (t : T) : PV := strL (tx L t)
theorem encT_map (L : Lab) (ts : List T) : ts.map (encT L) = (ts.map fun t => (⟨(tx L t).toArray⟩ : Str)).map PV.str := by rw [List.map_map]; rfl
theorem join_txs (L : Lab) (ts : List T) : Txt.join "" (ts.map fun t => (⟨(tx L t).toArray⟩ : Str)) = ⟨(txs L ts).toArray⟩ := by
  rw [join_empty, List.flatMap_map]
  rfl
theorem sum_txs (L : Lab) : ∀ ts : List T, ((ts.map fun t => (⟨(tx L t).toArray⟩ : Str)).map (·.length)).sum = (txs L ts).length
  | [] => rfl
  | t :: ts => by
    rw [List.map_cons, List.map_cons, List.sum_cons, sum_txs L ts, txs_cons, List.length_append, length_L]

section
variable {G : Glo} {k : Nat} {sc : Scope} {mv : Option Str} {σ : Sig}

theorem sem_join_txs (L : Lab) {e : Expr} {n : Nat} {p₀ apos p : Pos} {ts : List T} (hn : notStarred e = true) (hp : (apos.endLine == p.line) = true) (he : SemT G k sc mv σ e (.lst (ts.map (encT L)))) (hsz : (txs L ts).length ≤ 2 ^ 9) :
    SemE G k sc mv σ (.Call (.Attribute (.Constant (.str "") n p₀) "join" apos) [e] [] p) (.str ⟨(txs L ts).toArray⟩) := by
  rw [← join_txs]
  refine sem_join hn hp he (by rw [encT_map]; exact pstrs_map _) ?_
  have e : (Str.ofString "").length = 0 := by decide +kernel
  rw [e, Nat.mul_zero, Nat.add_zero, sum_txs]
  exact Nat.le_trans hsz (by decide)

theorem row_ok (hG : G.fns = theFns) (hT : G.tok = tokD) (L : Lab) (P : Par) (hP : ∀ i, P.r6 i = ((signRow (L.sg i)).2.1 == 35)) {ts : List T} {r : List R} {f : Nat} (hl : (txs L ts).length ≤ 2 ^ 9) (ha : apartT ts = true) (hb : bal ts = true) (hr : readT P f ts = some r) :
    CallOK G (k + 4 + f) "_law_row" [.lst (ts.map (encT L))] (.lst (r.map (encR L))) := by
  have hlx : (⟨(txs L ts).toArray⟩ : Str).length ≤ 2 ^ 9 := by rw [length_L]; exact hl
  have hms : (marksT L 0 ts).length ≤ 2 ^ 20 := by
    have := marksT_length L ts 0
    have := txs_length L ts
    (first | lia | omega)
  have hread := read_ok (k := k) hG hT L P hP hlx hms rfl (fun pre t post hx => by rw [← hx]; exact tops_all L pre t post) f [] ts [] r (by simp) hb hr
  rw [show k + 4 + f = (k + 3 + f) + 1 by (first | lia | omega)]
  refine callOK_ex (ns := ["dressed"]) (by rw [hG]; exact fn_row) (fun pm cd doc vs h => ?_) (by simp) rfl rfl rfl rfl (fun y hy => ?_) ?_
  · match vs, h with
    | [v], _ => rfl
  · simp at hy; subst hy; exact .inl (by kernel_rfl)
  · show SemR _ _ _ _ _ _ _
    refine semR_cons (semS_assign okl (sem_join_txs L rfl (by decide +kernel) nmT hl) (fun _ _ => rfl)) ?_
    have hm := marks_ok (k := k + 1 + f) hG hT hlx
    rw [marks_txs L ha, show k + 1 + f + 2 = k + 3 + f by (first | lia | omega)] at hm
    have e : (((txs L ([] ++ ts)).length : Nat) : Int) = ((⟨(txs L ts).toArray⟩ : Str).length : Nat) := by rw [length_L]; rfl
    rw [e] at hread
    exact semR_return (sem_call (by kernel_rfl) (by decide +kernel) (by rw [hG]; exact fn_read) rfl (semEs_cons rfl nm (semEs_cons rfl (sem_call (by kernel_rfl) (by decide +kernel) (by rw [hG]; exact fn_marks) rfl (semEs_cons rfl nm semEs_nil) hm) (semEs_cons rfl sem_int (semEs_cons rfl (sem_len (by kernel_rfl) rfl nmT (plen_str (Nat.le_trans hlx (by decide)))) semEs_nil)))) hread).toT

noncomputable def retE : Stmt → Expr
  | .Return (some e) _ => e
  | _ => .Constant .none 0 noPos
noncomputable def encS (r : List Nat × Int × Nat) : PV := .tup [strL r.1, .int r.2.1, .int r.2.2]
theorem SemE.eqv {e : Expr} {d d' : PV} (h : SemE G k sc mv σ e d) (hd : d = d') : SemE G k sc mv σ e d' := hd ▸ h

/- what is written out -/
noncomputable def listE (f : Expr → Option PV) : List Expr → Option (List PV)
  | [] => some []
  | e :: r => match f e, listE f r with
    | some d, some ds => some (d :: ds)
    | _, _ => none
noncomputable def constE : Nat → Expr → Option PV
  | 0, _ => none
  | _ + 1, .Constant (.str x) _ _ => some (.str x)
  | _ + 1, .Constant (.int i) _ _ => some (.int i)
  | n + 1, .Tuple es _ _ => match listE (constE n) es with
    | some ds => if ds.length ≤ 2 ^ 20 then some (.tup ds) else none
    | none => none
  | n + 1, .List es _ => match listE (constE n) es with
    | some ds => if ds.length ≤ 2 ^ 20 then some (.lst ds) else none
    | none => none
  | _ + 1, _ => none
theorem listE_ok {f : Expr → Option PV} (hf : ∀ e d, f e = some d → notStarred e = true ∧ SemE G k sc mv σ e d) : ∀ (es : List Expr) (ds : List PV), listE f es = some ds → SemEs G k sc mv σ es ds
  | [], ds, h => by cases h; exact semEs_nil
  | e :: r, ds, h => by
    unfold listE at h
    split at h
    · rename_i d ds' h1 h2
      cases h
      obtain ⟨h3, h4⟩ := hf e d h1
      exact semEs_cons h3 h4 (listE_ok hf r ds' h2)
    · cases h
theorem constE_ok : ∀ (n : Nat) (e : Expr) (d : PV), constE n e = some d → notStarred e = true ∧ SemE G k sc mv σ e d
  | 0, e, d, h => by cases h
  | n + 1, e, d, h => by
    unfold constE at h
    split at h
    · contradiction
    · cases h; exact ⟨rfl, sem_str⟩
    · cases h; exact ⟨rfl, sem_int⟩
    · rename_i hn
      cases hn
      split at h
      · rename_i ds h1
        split at h
        · rename_i hl; cases h; exact ⟨rfl, sem_tuple (listE_ok (constE_ok n) _ _ h1) hl⟩
        · cases h
      · cases h
    · rename_i hn
      cases hn
      split at h
      · rename_i ds h1
        split at h
        · rename_i hl; cases h; exact ⟨rfl, sem_list (listE_ok (constE_ok n) _ _ h1) hl⟩
        · cases h
      · cases h
    · cases h

theorem semR_const {b : List Stmt} {d : PV} {n : Nat} (h : (match b with | .Return (some e) _ :: _ => constE n e | _ => none) = some d) : SemR G k sc mv σ b d := by
  split at h
  · exact semR_return (constE_ok _ _ _ h).2.toT
  · cases h
theorem signs_ok (hG : G.fns = theFns) : CallOK G (k + 1) "_law_signs" [] (.lst (signTab.map encS)) := by
  refine callOK_ex (ns := []) (by rw [hG]; exact fn_signs) (fun pm cd doc vs h => ?_) (by simp) rfl rfl rfl rfl (fun y hy => nomatch hy) ?_
  · match vs, h with
    | [], _ => rfl
  · show SemR _ _ _ _ _ _ _
    exact semR_const (n := 4) (by kernel_rfl)
end
end Mine
end

noncomputable section
open PySem PyProof.Rows
set_option Elab.async false
set_option linter.all false
set_option autoImplicit false
set_option maxRecDepth 100000
namespace Mine

theorem tx_o (L : Lab) (t : T) : decide (tx L t = [40]) = decide (t = T.o) := by
  cases kind L t with
  | o => rfl
  | c => rfl
  | sg j hj =>
    have : tx L (.sg j) ≠ [40] := fun e => (hj 40 (by rw [e]; simp)).2.2.1 rfl
    rw [decide_eq_false this]; rfl
  | esc j c h => rw [h]; rfl
  | quo j c h1 h => rw [h]; simp
theorem tx_c (L : Lab) (t : T) : decide (tx L t = [41]) = decide (t = T.c) := by
  cases kind L t with
  | o => rfl
  | c => rfl
  | sg j hj =>
    have : tx L (.sg j) ≠ [41] := fun e => (hj 41 (by rw [e]; simp)).2.2.2 rfl
    rw [decide_eq_false this]; rfl
  | esc j c h => rw [h]; rfl
  | quo j c h1 h => rw [h]; simp

theorem eq_lpar (L : Lab) (t : T) : cmpop .Eq (encT L t) (.str ("(" : Str)) = some (decide (t = T.o)) := by rw [← tx_o L t]; exact str_eq lpar_str
theorem eq_rpar (L : Lab) (t : T) : cmpop .Eq (encT L t) (.str (")" : Str)) = some (decide (t = T.c)) := by rw [← tx_c L t]; exact str_eq rpar_str
theorem item_T (L : Lab) {ps : List T} {i : Nat} {t : T} (h : ps[i]? = some t) (hl : ps.length ≤ 2 ^ 20) : pitem (.lst (ps.map (encT L))) (.int (i : Nat)) = some (encT L t) := by
  have := (List.getElem?_eq_some_iff.mp h).1
  exact pitem_lst (by (first | lia | omega)) (by (first | lia | omega)) (by rw [Int.toNat_natCast, List.getElem?_map, h]; rfl)
theorem ps_to {α : Type} {f : α → PV} {l : List α} {i : Int} {j : Nat} (hl : l.length ≤ 2 ^ 20) (hi : i = (j : Nat)) : pslice (.lst (l.map f)) none (some i) none = some (.lst ((l.take j).map f)) := by
  rw [hi, pslice_lst (st := none) (by rw [List.length_map]; exact hl) nofun, pick_to, List.map_take]
theorem ps_both {α : Type} {f : α → PV} {l : List α} {i i' : Int} {j j' : Nat} (hl : l.length ≤ 2 ^ 20) (hi : i = (j : Nat)) (hi' : i' = (j' : Nat)) : pslice (.lst (l.map f)) (some i) (some i') none = some (.lst (((l.take j').drop j).map f)) := by
  rw [hi, hi', pslice_lst (st := none) (by rw [List.length_map]; exact hl) nofun, pick_both, List.map_drop, List.map_take]
theorem ps_from {α : Type} {f : α → PV} {l : List α} {i : Int} {j : Nat} (hl : l.length ≤ 2 ^ 20) (hi : i = (j : Nat)) : pslice (.lst (l.map f)) (some i) none none = some (.lst ((l.drop j).map f)) := by
  rw [hi, pslice_lst (st := none) (by rw [List.length_map]; exact hl) nofun, pick_from, List.map_drop]
theorem succ_cast (n : Nat) : ((n : Nat) : Int) + 1 = ((n + 1 : Nat) : Int) := rfl

section
variable {G : Glo} {k : Nat}
noncomputable def sWo (L : Lab) (ps : List T) (first : Nat) (last depth : Int) : Sig := [("pieces", .lst (ps.map (encT L))), ("first", .int (first : Nat)), ("last", .int last), ("depth", .int depth)]
noncomputable def woS : Stmt := nth (defAt 60).2.1 1

theorem without_step (L : Lab) {ps : List T} {first : Nat} {t : T} {i : Nat} (hl : ps.length ≤ 2 ^ 20) (ht : ps[i]? = some t) (d : Int) :
    SemSs G k (defAt 60).2.2 none (sWo L ps first ((i : Int) - 1) d) (whB woS) none (sWo L ps first (i : Nat) (if t = T.o then d + 1 else if t = T.c then d - 1 else d)) .next := by
  have hi := item_T L ht hl
  refine semSs_consE (semS_aug (i := (i : Int) - 1) (j := 1) (r := ((i : Nat) : Int)) okl (by decide +kernel) (by exact rfl) sem_int (.inl ⟨rfl, by (first | lia | omega)⟩)) (by kernel_rfl : _ = sWo L ps first (i : Nat) d) ?_
  refine semSs_one (semS_if (c := decide (t = T.o)) (semB_compare (sem_item nmT nm hi) sem_str rfl (eq_lpar L t)) (fun h => ?_) (fun h => ?_))
  · rw [if_pos (of_decide_eq_true h)]
    exact semSs_one ((semS_aug okl (by decide +kernel) (by exact rfl) sem_int (.inl ⟨rfl, rfl⟩)).eq (by kernel_rfl))
  · rw [if_neg (of_decide_eq_false h)]
    refine semSs_one (semS_if (c := decide (t = T.c)) (semB_compare (sem_item nmT nm hi) sem_str rfl (eq_rpar L t)) (fun h => ?_) (fun h => ?_))
    · rw [if_pos (of_decide_eq_true h)]
      exact semSs_one ((semS_aug okl (by decide +kernel) (by exact rfl) sem_int (.inr ⟨rfl, rfl⟩)).eq (by kernel_rfl))
    · rw [if_neg (of_decide_eq_false h)]
      exact semSs_nil

theorem without_loop (L : Lab) {ps : List T} {first : Nat} (hl : ps.length ≤ 2 ^ 20) : ∀ (rest : List T) (d i c : Nat), ps.drop i = rest → closeAt (d + 1) i rest = some c →
    ∃ n, WhileRel (fun σ b => SemB G k (defAt 60).2.2 none σ (whT woS) b) (fun σ σ₁ => SemSs G k (defAt 60).2.2 none σ (whB woS) none σ₁ .next) n (sWo L ps first ((i : Int) - 1) ((d + 1 : Nat) : Int)) (sWo L ps first (c : Nat) 0)
  | [], d, i, c, h, hc => by simp [closeAt] at hc
  | t :: r, d, i, c, h, hc => by
    have ht : ps[i]? = some t := by
      have : (ps.drop i)[0]? = some t := by rw [h]; rfl
      rw [List.getElem?_drop] at this
      simpa using this
    have hr : ps.drop (i + 1) = r := by
      rw [← List.drop_drop, h]; rfl
    have step := without_step (G := G) (k := k) (first := first) L hl ht ((d + 1 : Nat) : Int)
    have test : SemB G k (defAt 60).2.2 none (sWo L ps first ((i : Int) - 1) ((d + 1 : Nat) : Int)) (whT woS) true := semB_compare nm sem_int rfl (by show some (decide ((0 : Int) < ((d + 1 : Nat) : Int))) = _; rw [decide_eq_true (by (first | lia | omega))])
    have next : ∀ d' : Nat, (if t = T.o then ((d + 1 : Nat) : Int) + 1 else if t = T.c then ((d + 1 : Nat) : Int) - 1 else ((d + 1 : Nat) : Int)) = ((d' + 1 : Nat) : Int) → closeAt (d' + 1) (i + 1) r = some c →
        ∃ n, WhileRel (fun σ b => SemB G k (defAt 60).2.2 none σ (whT woS) b) (fun σ σ₁ => SemSs G k (defAt 60).2.2 none σ (whB woS) none σ₁ .next) n (sWo L ps first ((i : Int) - 1) ((d + 1 : Nat) : Int)) (sWo L ps first (c : Nat) 0) := fun d' e hc' => by
      obtain ⟨n, hn⟩ := without_loop L hl r d' (i + 1) c hr hc'
      rw [e] at step
      rw [show ((i + 1 : Nat) : Int) - 1 = (i : Nat) by (first | lia | omega)] at hn
      exact ⟨n + 1, .next test step hn⟩
    match t, d, hc with
    | .o, d, hc => exact next (d + 1) (by simp) hc
    | .sg j, d, hc => exact next d (by simp) (by cases d <;> exact hc)
    | .th j, d, hc => exact next d (by simp) (by cases d <;> exact hc)
    | .c, d + 1, hc => exact next d (by simp) hc
    | .c, 0, hc =>
      cases hc
      refine ⟨1, .next test step (.stop ?_)⟩
      exact semB_compare nm sem_int rfl rfl

theorem without_ok (hG : G.fns = theFns) (L : Lab) {ps sp : List T} {first : Nat} (hl : ps.length ≤ 2 ^ 9) (h : withoutT ps first = some sp) :
    CallOK G (k + 1) "_law_without" [.lst (ps.map (encT L)), .int (first : Nat)] (.lst (sp.map (encT L))) := by
  have hl20 : ps.length ≤ 2 ^ 20 := Nat.le_trans hl (by decide)
  unfold withoutT at h
  obtain ⟨c, hc, rfl⟩ := Option.map_eq_some_iff.mp h
  obtain ⟨n, hn⟩ := without_loop (G := G) (k := k) (first := first) L hl20 _ 0 (first + 1) c rfl hc
  rw [show ((first + 1 : Nat) : Int) - 1 = (first : Nat) by (first | lia | omega)] at hn
  refine callOK_ex (ns := ["pieces", "first"]) (by rw [hG]; exact fn_without) (fun pm cd doc vs h => ?_) (by decide +kernel) rfl rfl rfl rfl (fun y hy => ?_) ?_
  · match vs, h with
    | [a, b], _ => rfl
  · simp at hy; rcases hy with rfl | rfl <;> exact .inl (by kernel_rfl)
  · show SemR _ _ _ _ _ _ _
    refine semR_consE (semS_swapped (xs := ["depth", "last"]) (ds := [.int 1, .int (first : Nat)]) rfl (fun y hy => ?_) (sem_tuple (semEs_cons rfl sem_int (semEs_cons rfl nm semEs_nil)) (by simp)) (fun _ _ => rfl) (swapped_env (by kernel_rfl))) (by kernel_rfl : _ = sWo L ps first (first : Nat) ((0 + 1 : Nat) : Int)) ?_
    · simp only [List.mem_cons, List.not_mem_nil, or_false] at hy
      rcases hy with rfl | rfl <;> exact okl
    refine semR_cons (semS_while hn) ?_
    have s1 := ps_to (f := encT L) (l := ps) (j := first) hl20 rfl
    have s2 := ps_both (f := encT L) (l := ps) (j := first + 1) (j' := c) hl20 (succ_cast first) rfl
    have s3 := ps_from (f := encT L) (l := ps) (j := c + 1) hl20 (succ_cast c)
    have e : (ps.take first ++ ((ps.take c).drop (first + 1) ++ ps.drop (c + 1))).map (encT L) = (ps.take first).map (encT L) ++ ((ps.take c).drop (first + 1)).map (encT L) ++ (ps.drop (c + 1)).map (encT L) := by simp
    rw [e]
    have l1 : (ps.take first).length ≤ 2 ^ 9 := by rw [List.length_take]; (first | lia | omega)
    have l2 : ((ps.take c).drop (first + 1)).length ≤ 2 ^ 9 := by rw [List.length_drop, List.length_take]; (first | lia | omega)
    have l3 : (ps.drop (c + 1)).length ≤ 2 ^ 9 := by rw [List.length_drop]; (first | lia | omega)
    exact semR_return (sem_binop (sem_binop (sem_slice nmT semP_none (semP_some nm) semP_none s1).toT (sem_slice nmT (semP_some (sem_binop nmT sem_int rfl)) (semP_some nm) semP_none s2) (binop_lst (by simp only [List.length_map]; (first | lia | omega)))).toT
      (sem_slice nmT (semP_some (sem_binop nmT sem_int rfl)) semP_none semP_none s3) (binop_lst (by simp only [List.length_append, List.length_map]; (first | lia | omega)))).toT
end
end Mine
end

noncomputable section
open PySem PyProof.Rows
open PyProof.V (putD)
set_option Elab.async false
set_option linter.all false
set_option autoImplicit false
set_option maxRecDepth 100000
namespace Mine

theorem swaps_env {v : Expr} {t : Option Expr} {line : Nat} {sc : Scope} {b : Bool} (h0 : swapsWith v t line (env0 sc) = pure b) : ∀ env : Env, env.scope = sc → swapsWith v t line env = pure b := by
  intro env h
  rw [← h0]
  unfold swapsWith Env.blockKind Env.kindOf
  rw [h]
  rfl

theorem dict_lookup (D : List (List Nat × Int)) (l : List Nat) : Spec.lookup (.str ⟨l.toArray⟩) (D.map fun p => (PyData.str ⟨p.1.toArray⟩, PyData.int p.2)) = (D.lookup l).map PyData.int := by
  induction D with
  | nil => rfl
  | cons p D ih =>
    obtain ⟨a, b⟩ := p
    show (if Spec.same (.str ⟨a.toArray⟩) (.str ⟨l.toArray⟩) then some (PyData.int b) else Spec.lookup (.str ⟨l.toArray⟩) _) = _
    by_cases h : a = l
    · subst h
      have : Spec.same (.str ⟨a.toArray⟩) (.str ⟨a.toArray⟩) = true := by simp [Spec.same]
      rw [if_pos this]
      simp [List.lookup]
    · have : ¬ Spec.same (.str ⟨a.toArray⟩) (.str ⟨l.toArray⟩) = true := by simp [Spec.same, h]
      rw [if_neg this, ih]
      have h' : (l == a) = false := by simpa using fun e => h e.symm
      rw [List.lookup, h']

noncomputable def strTab' : List (List Nat × Int) := signTab.map fun r => (r.1, (r.2.2 : Int))
noncomputable def strD : List (PyData × PyData) := strTab'.map fun p => (PyData.str ⟨p.1.toArray⟩, PyData.int p.2)
noncomputable def strI (l : List Nat) : Option Int := strTab'.lookup l
noncomputable def strOf (L : Lab) (i : Nat) : Nat := (signRow (L.sg i)).2.2
noncomputable def strT (L : Lab) : T → Option Nat
  | .sg i => some (strOf L i)
  | _ => none
theorem strI_tx (L : Lab) (t : T) : strI (tx L t) = (strT L t).map (fun (n : Nat) => (n : Int)) := by
  cases t with
  | o =>
    have : strI [40] = none := by decide +kernel
    exact this
  | c =>
    have : strI [41] = none := by decide +kernel
    exact this
  | sg i =>
    have : ∀ j, j < 13 → strI (signRow j).1 = some ((signRow j).2.2 : Int) := by decide +kernel
    exact this _ (L.hs i)
  | th i =>
    have : ∀ j, j < 6 → strI (thingX j) = none := by decide +kernel
    exact this _ (L.ht i)
theorem in_str (L : Lab) (t : T) : cmpop .In (encT L t) (.dct strD) = some (strT L t).isSome := by
  show some (Spec.lookup (.str ⟨(tx L t).toArray⟩) strD).isSome = _
  unfold strD
  rw [dict_lookup]
  have := strI_tx L t
  unfold strI at this
  rw [this]
  cases strT L t <;> rfl
theorem item_str' (L : Lab) {t : T} {n : Nat} (h : strT L t = some n) : pitem (.dct strD) (encT L t) = some (.int (n : Int)) := by
  have := strI_tx L t
  unfold strI at this
  have e : Spec.lookup (.str ⟨(tx L t).toArray⟩) strD = some (.int (n : Int)) := by
    unfold strD
    rw [dict_lookup, this, h]; rfl
  show (Spec.lookup (.str ⟨(tx L t).toArray⟩) strD).bind _ = _
  rw [e]; rfl

theorem dictRel_of {α : Type} {turn : PV → Str → Int → Prop} (enc : α → PV) (key : α → Str) (val : α → Int) : ∀ (l : List α) (D : List (PyData × PyData)), (∀ a ∈ l, turn (enc a) (key a) (val a)) →
    DictRel turn (l.map enc) D (l.foldl (fun D a => putD (.str (key a)) (.int (val a)) D) D)
  | [], D, _ => .nil
  | a :: l, D, h => .cons (h a (List.mem_cons_self ..)) (dictRel_of enc key val l _ fun b hb => h b (List.mem_cons_of_mem _ hb))

theorem dictScope_of {scope sc : Scope} (hk : scope.kind = .function) (hB : (scope.names.all (fun y => y.2 != NameKind.cell) && scope.names.all (fun y => y.2 != NameKind.free) && scope.names.all (fun y => y.2 != NameKind.local || scope.names.lookup y.1 == some NameKind.local)) = true) : DictScope scope sc := by
  simp only [Bool.and_eq_true, List.all_eq_true] at hB
  obtain ⟨⟨h1, h2⟩, h3⟩ := hB
  exact ⟨hk, fun y hy => by simpa using h1 y hy, fun y hy => by simpa using h2 y hy, fun y hy e => by
    have := h3 y hy
    rw [e] at this; simpa using this⟩

section
variable {G : Glo} {k : Nat}
noncomputable def dStr : Stmt := nth (defAt 56).2.1 0
noncomputable def dFound : Stmt := nth (defAt 56).2.1 1
noncomputable def dThere : Stmt := nth (defAt 56).2.1 2
noncomputable def dSc : Scope := (defAt 56).2.2
noncomputable def dT : Expr := forT (nth (defAt 56).2.1 5)
noncomputable def dB : List Stmt := forB (nth (defAt 56).2.1 5)
noncomputable def dScope : Expr → Scope
  | .DictComp _ _ _ s _ => s
  | _ => ⟨.function, [], false, false, []⟩

theorem d_strengths (hG : G.fns = theFns) {σ : Sig} : SemS G (k + 1) dSc none σ dStr none (put σ "strengths" (.dct strD)) .next := by
  refine semS_assign okc (sem_dictcomp (semI_list (sem_call (by kernel_rfl) (by decide +kernel) (by rw [hG]; exact fn_signs) rfl semEs_nil (signs_ok hG))) rfl (dictScope_of (by kernel_rfl) (by kernel_rfl)) (by simp [signTab]) ?_) (swaps_env (by kernel_rfl))
  have e : signTab.foldl (fun D (a : List Nat × Int × Nat) => putD (.str ⟨a.1.toArray⟩) (.int (a.2.2 : Int)) D) [] = strD := by kernel_rfl
  rw [← e]
  refine dictRel_of encS (fun a => ⟨a.1.toArray⟩) (fun a => (a.2.2 : Int)) signTab [] fun a _ => ?_
  refine ⟨_, .tup (xs := ["sign", "told", "strength"]) (by rfl) rfl (fun y hy => ?_), nm, nm⟩
  simp only [List.mem_cons, List.not_mem_nil, or_false] at hy
  rcases hy with rfl | rfl | rfl <;> exact okl

noncomputable def foundN (L : Lab) (ts : List T) : List Nat := ts.filterMap (strT L)
noncomputable def natI (n : Nat) : PV := .int (n : Int)
noncomputable def sD1 (L : Lab) (ts : List T) : Sig := [("pieces", .lst (ts.map (encT L))), ("strengths", .dct strD)]
noncomputable def sD2 (L : Lab) (ts : List T) : Sig := [("pieces", .lst (ts.map (encT L))), ("strengths", .dct strD), ("found", .lst ((foundN L ts).map natI))]

theorem d_found (L : Lab) (ts : List T) (hl : ts.length ≤ 2 ^ 20) : SemS G k dSc none (sD1 L ts) dFound none (put (sD1 L ts) "found" (.lst ((foundN L ts).map natI))) .next := by
  have hsub : ∀ y d, ([("strengths", .dct strD)] : Sig).lookup y = some d → (sD1 L ts).lookup y = some d := sub_cons (by exact rfl) sub_nil
  refine semS_assign okc (sem_listcomp (semI_list nm) rfl (compScope_of (σc := [("strengths", .dct strD)]) (by kernel_rfl) (by kernel_rfl) (by kernel_rfl) (by kernel_rfl) hsub) (free_of hsub (by kernel_rfl)) (by rw [List.length_map]; exact hl) ?_) (swaps_env (by kernel_rfl))
  have e : (foundN L ts).map natI = ts.filterMap fun t => (strT L t).map natI := by unfold foundN; rw [List.map_filterMap]
  rw [e]
  refine compRel_filter (encT L) _ _ fun t _ => ?_
  have ht : ∀ {c : Expr} {b : Bool}, SemB G k (relabelS (scope0 (rhs dFound)) dSc) none (put [("strengths", .dct strD)] "piece" (encT L t)) c b → SemTests G k (relabelS (scope0 (rhs dFound)) dSc) (put [("strengths", .dct strD)] "piece" (encT L t)) [c] b := fun h => h
  have test : ∀ b, (strT L t).isSome = b → SemTests G k (relabelS (scope0 (rhs dFound)) dSc) (put [("strengths", .dct strD)] "piece" (encT L t)) (ifs0 (rhs dFound)) b := by
    intro b hb
    rw [← hb]
    exact ht (semB_compare nm nm rfl (in_str L t))
  cases h : strT L t with
  | none => exact .inr ⟨rfl, test _ (by rw [h]; rfl)⟩
  | some n => exact .inl ⟨natI n, rfl, test _ (by rw [h]; rfl), sem_item nmT nm (item_str' L h)⟩

theorem pints_nat : ∀ l : List Nat, pints (l.map natI) = some (l.map fun (n : Nat) => (n : Int))
  | [] => rfl
  | n :: l => by rw [List.map_cons, List.map_cons]; unfold natI; rw [pints]; show ((pints (l.map natI)).map _) = _; rw [pints_nat l]; rfl
theorem contains_nat (l : List Nat) (n : Nat) : (l.map fun (n : Nat) => (n : Int)).contains (n : Int) = l.contains n := by
  induction l with
  | nil => rfl
  | cons a l ih =>
    rw [List.map_cons, List.contains_cons, List.contains_cons, ih]
    congr 1
    by_cases h : n = a
    · subst h; simp
    · have : ¬ (n : Int) = (a : Int) := by (first | lia | omega)
      rw [beq_eq_false_iff_ne.mpr h, beq_eq_false_iff_ne.mpr this]
theorem idxOf_nat (l : List Nat) (n : Nat) : (l.map fun (n : Nat) => (n : Int)).idxOf (n : Int) = l.idxOf n := by
  induction l with
  | nil => rfl
  | cons a l ih =>
    rw [List.map_cons, List.idxOf_cons, List.idxOf_cons, ih]
    by_cases h : a = n
    · subst h; simp
    · have : ¬ (a : Int) = (n : Int) := by (first | lia | omega)
      rw [beq_eq_false_iff_ne.mpr h, beq_eq_false_iff_ne.mpr this]

theorem d_there (L : Lab) (ts : List T) (hl : ts.length ≤ 2 ^ 20) : SemS G k dSc none (sD2 L ts) dThere none (put (sD2 L ts) "there" (.lst ((thereS (foundN L ts)).map natI))) .next := by
  have hsub : ∀ y d, ([("found", .lst ((foundN L ts).map natI))] : Sig).lookup y = some d → (sD2 L ts).lookup y = some d := sub_cons (by exact rfl) sub_nil
  refine semS_assign_comp okl (semI_range (n := 7) (by kernel_rfl) rfl sem_int (by decide) (by decide)) rfl (compScope_of (σc := [("found", .lst ((foundN L ts).map natI))]) (by kernel_rfl) (by kernel_rfl) (by kernel_rfl) (by kernel_rfl) hsub) (free_of hsub (by kernel_rfl)) (by simp [upTo]) (swaps_comp (by kernel_rfl) (by kernel_rfl)) ?_
  have e0 : upTo (7 : Int).toNat = (List.range 7).map natI := rfl
  unfold thereS
  rw [e0, ← filterMap_ite]
  refine compRel_filter natI _ _ fun s _ => ?_
  have ht : ∀ {c : Expr} {b : Bool}, SemB G k (relabelS (scope0 (rhs dThere)) dSc) none (put [("found", .lst ((foundN L ts).map natI))] "strength" (natI s)) c b → SemTests G k (relabelS (scope0 (rhs dThere)) dSc) (put [("found", .lst ((foundN L ts).map natI))] "strength" (natI s)) [c] b := fun h => h
  have hcmp : cmpop .In (natI s) (.lst ((foundN L ts).map natI)) = some ((foundN L ts).contains s) := by
    show (pints _).map _ = _
    rw [pints_nat, Option.map_some, contains_nat]
  have test : ∀ b, (foundN L ts).contains s = b → SemTests G k (relabelS (scope0 (rhs dThere)) dSc) (put [("found", .lst ((foundN L ts).map natI))] "strength" (natI s)) (ifs0 (rhs dThere)) b := by
    intro b hb
    rw [← hb]
    exact ht (semB_compare nm nm rfl hcmp)
  cases h : (foundN L ts).contains s with
  | true => exact .inl ⟨_, rfl, test _ h, nm⟩
  | false => exact .inr ⟨rfl, test _ h⟩

noncomputable def augE : Stmt → Expr
  | .AugAssign _ _ e _ => e
  | _ => .Constant .none 0 noPos
noncomputable def dRhs (n : Nat) : Expr := augE (nth (ifB (nth (ifE (nth dB 0)) 0)) n)
noncomputable def sPc (L : Lab) (t : T) : Sig := [("piece", encT L t)]
noncomputable def sPs (L : Lab) (t : T) (n : Nat) : Sig := [("piece", encT L t), ("stronger", natI n)]
noncomputable def sDr (L : Lab) (P : Par) (ts acc : List T) : Sig := [("pieces", .lst (ts.map (encT L))), ("strengths", .dct strD), ("found", .lst ((foundN L ts).map natI)), ("there", .lst ((thereS (foundN L ts)).map natI)), ("most", natI P.most), ("dressed", .lst (acc.map (encT L)))]

theorem rep_T (L : Lab) (t : T) (n : Nat) (hn : n ≤ 2 ^ 20) {i : Int} (hi : i = n) : binop .Mult (.lst [encT L t]) (.int i) = some (.lst ((List.replicate n t).map (encT L))) := by
  subst hi
  show (if _ ∧ _ then some _ else none) = _
  rw [if_pos ⟨by (first | lia | omega), by (first | lia | omega)⟩, Int.toNat_natCast, List.map_replicate]

theorem dress_turn (L : Lab) (P : Par) {ts : List T} (hm : P.most ≤ 6) (hlev : ∀ i, T.sg i ∈ ts → strOf L i ∈ thereS (foundN L ts) ∧ P.lev i + (thereS (foundN L ts)).idxOf (strOf L i) = P.most) {acc : List T} (ha : acc.length ≤ 2 ^ 19) {t : T} (ht : t ∈ ts) :
    Turn G k dSc (some "dressed") dT dB (encT L t) (sDr L P ts acc) (sDr L P ts (acc ++ dressOne P t)) .next := by
  refine ⟨_, .name okl, ?_⟩
  show SemSs G k dSc (some "dressed") (sDr L P ts acc ++ sPc L t) dB (some "dressed") (sDr L P ts (acc ++ dressOne P t)) .next
  have hacc : (acc.map (encT L)).length ≤ 2 ^ 19 := by rw [List.length_map]; exact ha
  have eo : PV.str ("(" : Str) = encT L T.o := by unfold encT strL; rw [lpar_str]; rfl
  have ec : PV.str (")" : Str) = encT L T.c := by unfold encT strL; rw [rpar_str]; rfl
  refine semSs_one (semS_if (c := decide (t = T.o) || decide (t = T.c)) (semB_or (b := decide (t = T.o)) (semB_compare nm sem_str rfl (eq_lpar L t)) (fun h1 => semB_or (b := decide (t = T.c)) (semB_compare nm sem_str rfl (eq_rpar L t)) (fun h2 => by rw [h1, h2]; exact semB_or_nil) (fun h2 => by rw [h2, Bool.or_true])) (fun h1 => by rw [h1, Bool.true_or])) (fun h => ?_) (fun h => ?_))
  · have e : dressOne P t = List.replicate (P.most + 1) t := by
      simp only [Bool.or_eq_true, decide_eq_true_eq] at h
      rcases h with rfl | rfl <;> rfl
    rw [e]
    refine (semSs_one ((semS_extend (ds := acc.map (encT L)) (es := (List.replicate (P.most + 1) t).map (encT L)) (by exact rfl) (.inl (by kernel_rfl)) (by decide +kernel) (sem_binop (sem_list (semEs_cons rfl nm semEs_nil) (by simp)).toT (sem_binop nmT sem_int rfl) (rep_T L t (P.most + 1) (by (first | lia | omega)) (by (first | lia | omega)))) (by rw [List.length_map (as := List.replicate _ _), List.length_replicate]; (first | lia | omega))).eq (σ'' := sDr L P ts (acc ++ List.replicate (P.most + 1) t) ++ sPc L t) ?_)).weaken (sub_append _ _)
    unfold sDr
    rw [List.map_append]
    kernel_rfl
  · simp only [Bool.or_eq_false_iff, decide_eq_false_iff_not] at h
    refine semSs_one (semS_if (c := (strT L t).isSome) (semB_compare nm nm rfl (in_str L t)) (fun h2 => ?_) (fun h2 => ?_))
    · obtain ⟨i, rfl⟩ : ∃ i, t = T.sg i := by
        cases t with
        | sg i => exact ⟨i, rfl⟩
        | _ => cases h2
      obtain ⟨hin, hsum⟩ := hlev i ht
      have hlv : P.lev i ≤ 6 := by (first | lia | omega)
      have hidx : ((((thereS (foundN L ts)).map fun (n : Nat) => (n : Int)).idxOf ((strOf L i : Nat) : Int) : Nat) : Int) = (((thereS (foundN L ts)).idxOf (strOf L i) : Nat) : Int) := by rw [idxOf_nat]
      have hmem : ((strOf L i : Nat) : Int) ∈ (thereS (foundN L ts)).map fun (n : Nat) => (n : Int) := List.mem_map.mpr ⟨_, hin, rfl⟩
      have hthl : ((thereS (foundN L ts)).map natI).length ≤ 2 ^ 20 := by
        rw [List.length_map]; exact Nat.le_trans (List.length_filter_le _ _) (by simp)
      refine semSs_consE (semS_assign okl (SemE.eqv (sem_binop nmT (sem_index (by exact rfl) (by decide +kernel) rfl (by decide +kernel) (sem_item nmT nm (item_str' L (t := T.sg i) rfl)) (pints_nat _) hmem hthl) rfl) (d' := natI (P.lev i)) (by unfold natI; rw [hidx]; congr 1; (first | lia | omega))) (fun _ _ => rfl)) (by kernel_rfl : _ = sDr L P ts acc ++ sPs L (.sg i) (P.lev i)) ?_
      have l1 : SemE G k dSc (some "dressed") (sDr L P ts acc ++ sPs L (.sg i) (P.lev i)) (dRhs 1) (.lst ((dressOne P (.sg i)).map (encT L))) := by
        have e : (dressOne P (.sg i)).map (encT L) = (List.replicate (P.lev i) T.c).map (encT L) ++ [encT L (.sg i)] ++ (List.replicate (P.lev i) T.o).map (encT L) := by simp [dressOne]
        rw [e]
        refine sem_binop (sem_binop (sem_binop (sem_list (semEs_cons rfl (SemE.eqv sem_str ec) semEs_nil) (by simp)).toT nm (rep_T L .c (P.lev i) (by (first | lia | omega)) rfl)).toT (sem_list (semEs_cons rfl nm semEs_nil) (by simp)) (binop_lst ?_)).toT (sem_binop (sem_list (semEs_cons rfl (SemE.eqv sem_str eo) semEs_nil) (by simp)).toT nm (rep_T L .o (P.lev i) (by (first | lia | omega)) rfl)) (binop_lst ?_)
        · simp only [List.length_map, List.length_replicate, List.length_cons, List.length_nil]; (first | lia | omega)
        · simp only [List.length_append, List.length_map, List.length_replicate, List.length_cons, List.length_nil]; (first | lia | omega)
      refine (semSs_one ((semS_extend (ds := acc.map (encT L)) (es := (dressOne P (.sg i)).map (encT L)) (by exact rfl) (.inl (by kernel_rfl)) (by decide +kernel) l1 ?_).eq (σ'' := sDr L P ts (acc ++ dressOne P (.sg i)) ++ sPs L (.sg i) (P.lev i)) ?_)).weaken (sub_append _ _)
      · simp only [dressOne, List.length_append, List.length_map, List.length_replicate, List.length_cons]
        simp only [List.length_map] at hacc; (first | lia | omega)
      · unfold sDr
        rw [List.map_append]
        kernel_rfl
    · obtain ⟨i, rfl⟩ : ∃ i, t = T.th i := by
        cases t with
        | th i => exact ⟨i, rfl⟩
        | o => exact absurd rfl h.1
        | c => exact absurd rfl h.2
        | sg i => cases h2
      refine (semSs_one ((semS_append (ds := acc.map (encT L)) (d := encT L (.th i)) (by exact rfl) (by decide +kernel) rfl (by decide +kernel) nm (by (first | lia | omega))).eq (σ'' := sDr L P ts (acc ++ dressOne P (.th i)) ++ sPc L (.th i)) ?_)).weaken (sub_append _ _)
      have e : (acc ++ dressOne P (.th i)).map (encT L) = acc.map (encT L) ++ [encT L (.th i)] := by simp [dressOne]
      unfold sDr
      rw [e]
      kernel_rfl

theorem strOf_lt (L : Lab) (i : Nat) : strOf L i < 7 := by
  have : ∀ j, j < 13 → (signRow j).2.2 < 7 := by decide +kernel
  exact this _ (L.hs i)
theorem strOf_mem (L : Lab) {ts : List T} {i : Nat} (h : T.sg i ∈ ts) : strOf L i ∈ thereS (foundN L ts) := by
  unfold thereS
  rw [List.mem_filter]
  refine ⟨List.mem_range.mpr (strOf_lt L i), ?_⟩
  rw [List.contains_iff_mem]
  exact List.mem_filterMap.mpr ⟨_, h, rfl⟩
theorem thereS_len (l : List Nat) : (thereS l).length ≤ 7 := Nat.le_trans (List.length_filter_le _ _) (by simp)

theorem dressOne_len (P : Par) (hm : P.most ≤ 6) {t : T} (hlev : ∀ i, t = T.sg i → P.lev i ≤ P.most) : (dressOne P t).length ≤ 13 := by
  cases t with
  | o => simp [dressOne]; (first | lia | omega)
  | c => simp [dressOne]; (first | lia | omega)
  | sg i => have := hlev i rfl; simp [dressOne]; (first | lia | omega)
  | th i => simp [dressOne]

theorem foldl_dress (P : Par) : ∀ (ts acc : List T), ts.foldl (fun acc t => acc ++ dressOne P t) acc = acc ++ ts.flatMap (dressOne P)
  | [], acc => by simp
  | t :: ts, acc => by rw [List.foldl_cons, foldl_dress P ts, List.flatMap_cons, List.append_assoc]

theorem dressed_ok (hG : G.fns = theFns) (L : Lab) (P : Par) {ts : List T} (hl : ts.length ≤ 2 ^ 9) (hm : (thereS (foundN L ts)).length = P.most + 1) (hlev : ∀ i, T.sg i ∈ ts → P.lev i + (thereS (foundN L ts)).idxOf (strOf L i) = P.most) :
    CallOK G (k + 2) "_law_dressed" [.lst (ts.map (encT L))] (.lst ((dressT P ts).map (encT L))) := by
  have hl20 : ts.length ≤ 2 ^ 20 := Nat.le_trans hl (by decide)
  have hm6 : P.most ≤ 6 := by have := thereS_len (foundN L ts); (first | lia | omega)
  have hth : ((thereS (foundN L ts)).map natI).length ≤ 2 ^ 20 := by rw [List.length_map]; have := thereS_len (foundN L ts); (first | lia | omega)
  have eo : PV.str ("(" : Str) = encT L T.o := by unfold encT strL; rw [lpar_str]; rfl
  have ec : PV.str (")" : Str) = encT L T.c := by unfold encT strL; rw [rpar_str]; rfl
  obtain ⟨hfor, hinv⟩ := forRel_fold (step := Turn G (k + 1) dSc (some "dressed") dT dB) (encT L) (sDr L P ts) (fun acc t => acc ++ dressOne P t) (fun n acc => acc.length ≤ n * 13 + 6) ts 0 (List.replicate P.most T.o) (by simp; (first | lia | omega))
    (fun m acc t hacc hmm ht => ⟨dress_turn L P hm6 (fun i hi => ⟨strOf_mem L hi, hlev i hi⟩) (by (first | lia | omega)) ht, by
      have := dressOne_len P hm6 (t := t) fun i e => by subst e; have := hlev i ht; (first | lia | omega)
      rw [List.length_append]; (first | lia | omega)⟩)
  rw [foldl_dress] at hfor hinv
  refine callOK_ex (ns := ["pieces"]) (by rw [hG]; exact fn_dressed) (fun pm cd doc vs h => ?_) (by simp) rfl rfl rfl rfl (fun y hy => ?_) ?_
  · match vs, h with
    | [v], _ => rfl
  · simp at hy; subst hy; exact .inl (by kernel_rfl)
  · show SemR _ _ _ _ [("pieces", .lst (ts.map (encT L)))] _ _
    refine semR_consE (d_strengths hG) (by kernel_rfl : _ = sD1 L ts) ?_
    refine semR_consE (d_found L ts hl20) (by kernel_rfl : _ = sD2 L ts) ?_
    refine semR_cons (d_there L ts hl20) ?_
    refine semR_cons (semS_assign okl (SemE.eqv (sem_binop (sem_len (by kernel_rfl) rfl nmT (plen_lst hth)).toT sem_int rfl) (d' := natI P.most) (by unfold natI; rw [List.length_map, hm]; congr 1; (first | lia | omega))) (fun _ _ => rfl)) ?_
    refine semR_consE (semS_intro (.inl (by kernel_rfl)) (semF_repeat (n := (P.most : Int)) nm (by (first | lia | omega)) (by (first | lia | omega))) (fun _ _ => rfl)) (σ₁ := sDr L P ts (List.replicate P.most T.o)) ?_ ?_
    · unfold sDr
      rw [List.map_replicate, ← eo]
      show _ = _
      rw [Int.toNat_natCast]
      kernel_rfl
    refine semR_cons (semS_for (semI_list nm) rfl hfor) ?_
    unfold dressT
    rw [List.map_append]
    refine semR_return (sem_binop nmT (sem_binop (sem_list (semEs_cons rfl (SemE.eqv sem_str ec) semEs_nil) (by simp)).toT nm (rep_T L .c P.most (by (first | lia | omega)) rfl)) (binop_lst ?_)).toT
    rw [List.length_map, List.length_map, List.length_replicate]
    (first | lia | omega)
end
end Mine
end

noncomputable section
open PySem PyProof.Rows
open PyProof.V (putD)
set_option Elab.async false
set_option linter.all false
set_option autoImplicit false
set_option maxRecDepth 100000
namespace Mine

theorem sem_plus_lst {G : Glo} {k : Nat} {sc : Scope} {mv : Option Str} {σ : Sig} {l r : Expr} {p : Pos} {a b : List PV} (hl : SemT G k sc mv σ l (.lst a)) (hr : SemE G k sc mv σ r (.lst b)) (h : a.length + b.length ≤ 2 ^ 20) : SemE G k sc mv σ (.BinOp l .Add r p) (.lst (a ++ b)) :=
  sem_binop hl hr (binop_lst h)

section
variable {G : Glo} {k : Nat}
noncomputable def fSc : Scope := (defAt 55).2.2
noncomputable def fK : Stmt := nth (defAt 55).2.1 0
noncomputable def fT1 : Expr := forT (nth (defAt 55).2.1 2)
noncomputable def fB1 : List Stmt := forB (nth (defAt 55).2.1 2)
noncomputable def fT2 : Expr := forT (nth (defAt 55).2.1 4)
noncomputable def fB2 : List Stmt := forB (nth (defAt 55).2.1 4)

noncomputable def nmF (ns : List Int) (i : Nat) : Int := ns.getD i 0
noncomputable def kdF (ns : List Int) : Nat → Int
  | 0 => ns.sum.fmod 6
  | i + 1 => ((nmF ns i).fdiv 780).fmod 6
theorem nums_eq : ∀ ns : List Int, ns = (List.range ns.length).map (nmF ns) := by
  intro ns
  apply List.ext_getElem?
  intro i
  rw [List.getElem?_map]
  by_cases h : i < ns.length
  · rw [List.getElem?_range h, List.getElem?_eq_getElem h]
    unfold nmF
    simp [List.getD, h]
  · rw [List.getElem?_eq_none (by (first | lia | omega)), List.getElem?_eq_none (by simp; (first | lia | omega))]
    rfl
theorem kinds_eq (ns : List Int) : [ns.sum.fmod 6] ++ ns.map (fun n => (n.fdiv 780).fmod 6) = (List.range (ns.length + 1)).map (kdF ns) := by
  rw [List.range_succ_eq_map, List.map_cons, List.map_map]
  conv => lhs; rw [show ns.map (fun n => (n.fdiv 780).fmod 6) = ((List.range ns.length).map (nmF ns)).map (fun n => (n.fdiv 780).fmod 6) by rw [← nums_eq]]
  rw [List.map_map]
  rfl

theorem compRel_map {α : Type} {test : PV → Bool → Prop} {elt : PV → PV → Prop} (enc : α → PV) (g : α → PV) : ∀ l : List α, (∀ a ∈ l, test (enc a) true ∧ elt (enc a) (g a)) → CompRel test elt (l.map enc) (l.map g)
  | [], _ => .nil
  | a :: l, h => .take (h a (List.mem_cons_self ..)).1 (h a (List.mem_cons_self ..)).2 (compRel_map enc g l fun b hb => h b (List.mem_cons_of_mem _ hb))

theorem pints_int : ∀ l : List Int, pints (l.map PV.int) = some l
  | [] => rfl
  | n :: l => by rw [List.map_cons, pints, pints_int l]; rfl

theorem f_kinds {ns : List Int} (hl : ns.length ≤ 2 ^ 9) : SemS G k fSc none [("numbers", .lst (ns.map PV.int))] fK none (put [("numbers", .lst (ns.map PV.int))] "kinds" (.lst ((List.range (ns.length + 1)).map fun i => .int (kdF ns i)))) .next := by
  have e : ((List.range (ns.length + 1)).map fun i => PV.int (kdF ns i)) = [.int (ns.sum.fmod 6)] ++ ns.map (fun n => .int ((n.fdiv 780).fmod 6)) := by
    have := congrArg (List.map PV.int) (kinds_eq ns)
    rw [List.map_append, List.map_map, List.map_map] at this
    exact this.symm
  rw [e]
  refine semS_assign okl (sem_plus_lst (sem_list (semEs_cons rfl (sem_binop (sem_sum (by kernel_rfl) rfl nmT (pints_int ns)).toT sem_int (by exact rfl)) semEs_nil) (by simp)).toT
    (sem_listcomp (σc := []) (semI_list nm) rfl (compScope_of (by kernel_rfl) (by kernel_rfl) (by kernel_rfl) (by kernel_rfl) sub_nil) (free_none (by kernel_rfl)) (by rw [List.length_map]; (first | lia | omega)) (compRel_map PV.int _ ns fun n _ => ⟨rfl, sem_binop (sem_binop nmT sem_int (by exact rfl)).toT sem_int (by exact rfl)⟩)) (by rw [List.length_map]; simp; (first | lia | omega))) (swaps_env (by kernel_rfl))

noncomputable def stI (L : Lab) : Option Nat → Int
  | none => 7
  | some i => (strOf L i : Nat)
noncomputable def encPart (L : Lab) (a : Part) : PV := .tup [.lst (a.ps.map (encT L)), .int (stI L a.st), .lst (a.row.map (encR L))]
noncomputable def thingE : Expr → Expr
  | .Subscript v _ _ => v
  | e => e
noncomputable def sF1 (L : Lab) (ns : List Int) (parts : List Part) : Sig := [("numbers", .lst (ns.map PV.int)), ("kinds", .lst ((List.range (ns.length + 1)).map fun i => .int (kdF ns i))), ("parts", .lst (parts.map (encPart L)))]
noncomputable def sKind (n : Int) : Sig := [("kind", .int n)]
noncomputable def sKT (n : Int) (l : List Nat) : Sig := [("kind", .int n), ("thing", strL l)]
noncomputable def partI (i : Nat) : Part := ⟨[T.th i], none, [R.leaf i]⟩

theorem f_turn1 (L : Lab) {ns : List Int} {parts : List Part} {i : Nat} (hp : parts.length ≤ 2 ^ 20) (h0 : 0 ≤ kdF ns i) (h6 : kdF ns i < 6) (hi : L.th i = (kdF ns i).toNat) :
    Turn G k fSc (some "parts") fT1 fB1 (.int (kdF ns i)) (sF1 L ns parts) (sF1 L ns (parts ++ [partI i])) .next := by
  refine ⟨_, .name okl, ?_⟩
  show SemSs G k fSc (some "parts") (sF1 L ns parts ++ sKind (kdF ns i)) fB1 (some "parts") (sF1 L ns (parts ++ [partI i])) .next
  have htup : SemE G k fSc (some "parts") (sF1 L ns parts ++ sKind (kdF ns i)) (thingE (rhs (nth fB1 0))) (.tup (thingTab.map strL)) := (constE_ok 3 _ _ (by kernel_rfl)).2
  have hit : pitem (.tup (thingTab.map strL)) (.int (kdF ns i)) = some (strL (thingX (L.th i))) := by
    rw [hi]
    generalize kdF ns i = n at h0 h6
    obtain ⟨m, rfl⟩ : ∃ m : Nat, n = m := ⟨n.toNat, by (first | lia | omega)⟩
    have : ∀ m, m < 6 → (thingTab.map strL)[m]? = some (strL (thingX m)) := by
      intro m hm
      match m, hm with
      | 0, _ => rfl
      | 1, _ => rfl
      | 2, _ => rfl
      | 3, _ => rfl
      | 4, _ => rfl
      | 5, _ => rfl
    exact pitem_tup h0 (by (first | lia | omega)) (by rw [Int.toNat_natCast]; exact this m (by (first | lia | omega)))
  refine semSs_consE (semS_assign okl (sem_item htup.toT nm hit) (fun _ _ => rfl)) (by kernel_rfl : _ = sF1 L ns parts ++ sKT (kdF ns i) (thingX (L.th i))) ?_
  refine (semSs_one ((semS_append (ds := parts.map (encPart L)) (d := encPart L (partI i)) (by exact rfl) (by decide +kernel) rfl (by decide +kernel)
    (sem_tuple (semEs_cons rfl (sem_list (semEs_cons rfl nm semEs_nil) (by simp [partI])) (semEs_cons rfl sem_int (semEs_cons rfl (sem_list (semEs_cons rfl nm semEs_nil) (by simp [partI])) semEs_nil))) (by simp)) (by rw [List.length_map]; exact hp)).eq (σ'' := sF1 L ns (parts ++ [partI i]) ++ sKT (kdF ns i) (thingX (L.th i))) ?_)).weaken (sub_append _ _)
  have e : (parts ++ [partI i]).map (encPart L) = parts.map (encPart L) ++ [encPart L (partI i)] := by simp
  unfold sF1
  rw [e]
  kernel_rfl

theorem foldl_parts : ∀ (l : List Nat) (acc : List Part), l.foldl (fun acc i => acc ++ [partI i]) acc = acc ++ l.map partI
  | [], acc => by simp
  | i :: l, acc => by rw [List.foldl_cons, foldl_parts l, List.map_cons]; simp

noncomputable def sF (L : Lab) (ns : List Int) (parts : List Part) : Sig := [("numbers", .lst (ns.map PV.int)), ("kinds", .lst ((List.range (ns.length + 1)).map fun i => .int (kdF ns i))), ("parts", .lst (parts.map (encPart L))), ("signs", .lst (signTab.map encS))]

theorem sign_item (n : Int) : pitem (.lst (signTab.map encS)) (.int (n.fmod 13)) = some (encS (signRow (n.fmod 13).toNat)) := by
  have h0 := Int.fmod_nonneg_of_pos n (show (0 : Int) < 13 by decide)
  have h1 := Int.fmod_lt_of_pos n (show (0 : Int) < 13 by decide)
  generalize n.fmod 13 = a at h0 h1
  obtain ⟨m, rfl⟩ : ∃ m : Nat, a = m := ⟨a.toNat, by (first | lia | omega)⟩
  refine pitem_lst h0 (by (first | lia | omega)) ?_
  rw [Int.toNat_natCast, List.getElem?_map]
  unfold signRow
  have hm : m < signTab.length := by show m < 13; (first | lia | omega)
  rw [List.getElem?_eq_getElem hm, List.getD_eq_getElem?_getD, List.getElem?_eq_getElem hm]
  rfl

noncomputable def plc (n : Int) (len : Nat) : Nat := (((n.fdiv 13).fmod 60).fmod ((len : Int) - 1)).toNat
noncomputable def sSgn (n : Int) (r : List Nat × Int × Nat) (p : Nat) : Sig := [("number", .int n), ("sign", strL r.1), ("told", .int r.2.1), ("strength", natI r.2.2), ("place", natI p)]
noncomputable def sAB (L : Lab) (a b : Part) (pa pb : List T) : Sig := [("pieces", .lst (pa.map (encT L))), ("inner", .int (stI L a.st)), ("row", .lst (a.row.map (encR L))), ("others", .lst (pb.map (encT L))), ("other", .int (stI L b.st)), ("behind", .lst (b.row.map (encR L)))]

theorem map_erase {α β : Type} (f : α → β) : ∀ (l : List α) (i : Nat), (l.map f).eraseIdx i = (l.eraseIdx i).map f
  | [], _ => rfl
  | a :: l, 0 => rfl
  | a :: l, i + 1 => by simp [map_erase f l i]
noncomputable def ifT : Stmt → Expr
  | .If t _ _ _ => t
  | _ => .Constant .none 0 noPos
theorem item_P (L : Lab) {ps : List Part} {i : Nat} {t : Part} (h : ps[i]? = some t) (hl : ps.length ≤ 2 ^ 20) : pitem (.lst (ps.map (encPart L))) (.int (i : Nat)) = some (encPart L t) := by
  have := (List.getElem?_eq_some_iff.mp h).1
  exact pitem_lst (by (first | lia | omega)) (by (first | lia | omega)) (by rw [Int.toNat_natCast, List.getElem?_map, h]; rfl)
noncomputable def needI (a : Int) (s : Nat) (r : Bool) : Bool := decide (a < (s : Int)) || ((a == (s : Int)) && (if r then (s : Int) == 6 else (s : Int) != 6))
theorem need_L (L : Lab) (P : Par) {a : Option Nat} {j : Nat} (h : ∀ i, a = some i → P.bl i j = needL (strOf L i) (strOf L j)) : needI (stI L a) (strOf L j) true = optB P.bl a j := by
  have hs := strOf_lt L j
  cases a with
  | none =>
    show needI 7 (strOf L j) true = false
    unfold needI
    rw [decide_eq_false (by (first | lia | omega)), beq_eq_false_iff_ne.mpr (show (7 : Int) ≠ (strOf L j : Nat) by (first | lia | omega))]
    rfl
  | some i =>
    show needI (strOf L i : Nat) (strOf L j) true = P.bl i j
    rw [h i rfl]
    unfold needI needL
    have e1 : decide (((strOf L i : Nat) : Int) < (strOf L j : Nat)) = decide (strOf L i < strOf L j) := by simp
    have e2 : (((strOf L i : Nat) : Int) == ((strOf L j : Nat) : Int)) = (strOf L i == strOf L j) := by rw [Bool.eq_iff_iff]; simp; (first | lia | omega)
    rw [e1, e2]
    simp only [if_true]
    by_cases hij : strOf L i = strOf L j
    · rw [hij]
      have e3 : (((strOf L j : Nat) : Int) == 6) = (strOf L j == 6) := by
        rw [Bool.eq_iff_iff]; simp; (first | lia | omega)
      rw [e3]
    · rw [beq_eq_false_iff_ne.mpr hij]; simp
theorem need_R (L : Lab) (P : Par) {a : Option Nat} {j : Nat} (h : ∀ i, a = some i → P.br i j = needR (strOf L i) (strOf L j)) : needI (stI L a) (strOf L j) false = optB P.br a j := by
  have hs := strOf_lt L j
  cases a with
  | none =>
    show needI 7 (strOf L j) false = false
    unfold needI
    rw [decide_eq_false (by (first | lia | omega)), beq_eq_false_iff_ne.mpr (show (7 : Int) ≠ (strOf L j : Nat) by (first | lia | omega))]
    rfl
  | some i =>
    show needI (strOf L i : Nat) (strOf L j) false = P.br i j
    rw [h i rfl]
    unfold needI needR
    have e1 : decide (((strOf L i : Nat) : Int) < (strOf L j : Nat)) = decide (strOf L i < strOf L j) := by simp
    have e2 : (((strOf L i : Nat) : Int) == ((strOf L j : Nat) : Int)) = (strOf L i == strOf L j) := by rw [Bool.eq_iff_iff]; simp; (first | lia | omega)
    rw [e1, e2]
    simp only [Bool.false_eq_true, if_false]
    by_cases hij : strOf L i = strOf L j
    · rw [hij]
      have e3 : (((strOf L j : Nat) : Int) != 6) = (strOf L j != 6) := by
        rw [Bool.eq_iff_iff]; simp; (first | lia | omega)
      rw [e3]
    · rw [beq_eq_false_iff_ne.mpr hij]; simp

theorem f_turn2 (L : Lab) (P : Par) {ns : List Int} {parts parts' : List Part} {j : Nat} (hj : L.sg j = ((nmF ns j).fmod 13).toNat) (hlen : 2 ≤ parts.length) (hlen2 : parts.length ≤ 2 ^ 9)
    (hbl : ∀ a, a < j → P.bl a j = needL (strOf L a) (strOf L j)) (hbr : ∀ a, a < j → P.br a j = needR (strOf L a) (strOf L j)) (hst : ∀ p ∈ parts, ∀ a, p.st = some a → a < j)
    (hps : ∀ p ∈ parts, p.ps.length ≤ 2 ^ 9 ∧ p.row.length ≤ 2 ^ 9) (h : formStep P j (plc (nmF ns j) parts.length) parts = some parts') :
    Turn G (k + 1) fSc (some "parts") fT2 fB2 (.int (nmF ns j)) (sF L ns parts) (sF L ns parts') .next := by
  unfold formStep at h
  generalize hp : plc (nmF ns j) parts.length = p at h
  cases ha : parts[p]? with
  | none => rw [ha] at h; cases h
  | some a =>
  cases hb : parts[p + 1]? with
  | none => rw [ha, hb] at h; cases h
  | some b =>
  rw [ha, hb] at h
  cases h
  have ham := List.mem_of_getElem? ha
  have hbm := List.mem_of_getElem? hb
  obtain ⟨hp1, _⟩ := List.getElem?_eq_some_iff.mp hb
  refine ⟨_, .name okl, ?_⟩
  have hplace : ((((nmF ns j).fdiv 13).fmod 60).fmod ((parts.length : Int) - 1)) = (p : Nat) := by
    have := Int.fmod_nonneg_of_pos (((nmF ns j).fdiv 13).fmod 60) (show (0 : Int) < (parts.length : Int) - 1 by (first | lia | omega))
    rw [← hp]; unfold plc; (first | lia | omega)
  have hne : ¬ ((parts.length : Int) - 1 = 0) := by (first | lia | omega)
  have hparts : (parts.map (encPart L)).length ≤ 2 ^ 20 := by rw [List.length_map]; (first | lia | omega)
  -- the sign and the place
  refine semSs_cons (semS_unpack (xs := ["sign", "told", "strength"]) (ds := [strL (signRow (L.sg j)).1, .int (signRow (L.sg j)).2.1, natI (signRow (L.sg j)).2.2]) (by rfl) rfl (fun y hy => ?_) (sem_item nmT (sem_binop nmT sem_int (by exact rfl)) (by rw [sign_item, ← hj]; rfl)) (fun _ _ => rfl) (swapped_env (by kernel_rfl))) ?_
  · simp only [List.mem_cons, List.not_mem_nil, or_false] at hy
    rcases hy with rfl | rfl | rfl <;> exact okl
  refine semSs_consE (semS_assign okl (SemE.eqv (sem_binop (sem_binop (sem_binop nmT sem_int (by exact rfl)).toT sem_int (by exact rfl)).toT (sem_binop (sem_len (by kernel_rfl) rfl nmT (plen_lst hparts)).toT sem_int (by exact rfl)) (by rw [List.length_map]; exact if_neg hne)) (d' := natI p) (by unfold natI; rw [hplace])) (fun _ _ => rfl)) (by kernel_rfl : _ = sF L ns parts ++ sSgn (nmF ns j) (signRow (L.sg j)) p) ?_
  have eo : PV.str ("(" : Str) = encT L T.o := by unfold encT strL; rw [lpar_str]; rfl
  have ec : PV.str (")" : Str) = encT L T.c := by unfold encT strL; rw [rpar_str]; rfl
  -- the two neighbours
  refine semSs_cons (semS_unpack (xs := ["pieces", "inner", "row"]) (ds := [.lst (a.ps.map (encT L)), .int (stI L a.st), .lst (a.row.map (encR L))]) (by rfl) rfl (fun y hy => ?_) (sem_item nmT nm (item_P L ha (by (first | lia | omega)))) (fun _ _ => rfl) (swapped_env (by kernel_rfl))) ?_
  · simp only [List.mem_cons, List.not_mem_nil, or_false] at hy
    rcases hy with rfl | rfl | rfl <;> exact okl
  have hj1 : (parts.map (encPart L))[(((p : Nat) : Int) + 1).toNat]? = some (.tup [.lst (b.ps.map (encT L)), .int (stI L b.st), .lst (b.row.map (encR L))]) := by
    rw [show (((p : Nat) : Int) + 1).toNat = p + 1 by (first | lia | omega), List.getElem?_map, hb]; rfl
  refine semSs_consE (semS_pop (xs := ["others", "other", "behind"]) (ds := parts.map (encPart L)) (us := [.lst (b.ps.map (encT L)), .int (stI L b.st), .lst (b.row.map (encR L))]) (j := ((p : Nat) : Int) + 1) (by exact rfl) (by decide +kernel) (sem_binop nmT sem_int rfl) (by (first | lia | omega)) hj1 hparts rfl (by decide +kernel) (by rfl) rfl (fun y hy => ?_) (fun _ _ => rfl) (swapped_env (by kernel_rfl)))
    (σ₁ := sF L ns (parts.eraseIdx (p + 1)) ++ sSgn (nmF ns j) (signRow (L.sg j)) p ++ sAB L a b a.ps b.ps) ?_ ?_
  · simp only [List.mem_cons, List.not_mem_nil, or_false] at hy
    rcases hy with rfl | rfl | rfl <;> exact okl
  · have e : (parts.map (encPart L)).eraseIdx (((p : Nat) : Int) + 1).toNat = (parts.eraseIdx (p + 1)).map (encPart L) := by
      rw [show (((p : Nat) : Int) + 1).toNat = p + 1 by (first | lia | omega), map_erase]
    rw [e]
    kernel_rfl
  have hla := hps a ham
  have hlb := hps b hbm
  -- the left one
  have tL : ∀ pb : List T, SemB G (k + 1) fSc (some "parts") (sF L ns (parts.eraseIdx (p + 1)) ++ sSgn (nmF ns j) (signRow (L.sg j)) p ++ sAB L a b a.ps pb) (ifT (nth fB2 4)) (needI (stI L a.st) (strOf L j) true) := fun pb =>
    semB_or (b := decide (stI L a.st < ((strOf L j : Nat) : Int))) (semB_compare nm nm rfl rfl)
      (fun h1 => semB_or (b := (stI L a.st == ((strOf L j : Nat) : Int)) && (((strOf L j : Nat) : Int) == 6))
        (semB_and (b := (stI L a.st == ((strOf L j : Nat) : Int))) (semB_compare nm nm rfl rfl) (fun g1 => semB_and (b := (((strOf L j : Nat) : Int) == 6)) (semB_compare nm sem_int rfl rfl) (fun g2 => by rw [g1, g2]; exact semB_and_nil) (fun g2 => by rw [g2, Bool.and_false])) (fun g1 => by rw [g1, Bool.false_and]))
        (fun h2 => by unfold needI; rw [h1, if_pos rfl, h2]; exact semB_or_nil) (fun h2 => by unfold needI; rw [if_pos rfl, h2, Bool.or_true]))
      (fun h1 => by unfold needI; rw [h1, Bool.true_or])
  refine semSs_consE (mv' := some "parts") (semS_if (tL b.ps) (σ' := sF L ns (parts.eraseIdx (p + 1)) ++ sSgn (nmF ns j) (signRow (L.sg j)) p ++ sAB L a b (bracket (optB P.bl a.st j) a.ps) b.ps) (fun hc => ?_) (fun hc => ?_)) rfl ?_
  · rw [need_L L P fun i hi => hbl i (hst a ham i hi)] at hc
    rw [hc]
    have e : (bracket true a.ps).map (encT L) = [encT L .o] ++ a.ps.map (encT L) ++ [encT L .c] := by simp [bracket]
    refine semSs_one ((semS_assign okl (sem_plus_lst (sem_plus_lst (sem_list (semEs_cons rfl (SemE.eqv sem_str eo) semEs_nil) (by simp)).toT nm (by simp only [List.length_cons, List.length_nil, List.length_map]; (first | lia | omega))).toT (sem_list (semEs_cons rfl (SemE.eqv sem_str ec) semEs_nil) (by simp)) (by simp only [List.length_append, List.length_cons, List.length_nil, List.length_map]; (first | lia | omega))) (fun _ _ => rfl)).eq ?_)
    unfold sAB
    rw [e]
    kernel_rfl
  · rw [need_L L P fun i hi => hbl i (hst a ham i hi)] at hc
    rw [hc]
    exact semSs_nil
  generalize hpa : bracket (optB P.bl a.st j) a.ps = pa
  have hpal : pa.length ≤ 2 ^ 9 + 2 := by
    rw [← hpa]; unfold bracket; split
    · simp; (first | lia | omega)
    · (first | lia | omega)
  -- the right one
  have tR : SemB G (k + 1) fSc (some "parts") (sF L ns (parts.eraseIdx (p + 1)) ++ sSgn (nmF ns j) (signRow (L.sg j)) p ++ sAB L a b pa b.ps) (ifT (nth fB2 5)) (needI (stI L b.st) (strOf L j) false) :=
    semB_or (b := decide (stI L b.st < ((strOf L j : Nat) : Int))) (semB_compare nm nm rfl rfl)
      (fun h1 => semB_or (b := (stI L b.st == ((strOf L j : Nat) : Int)) && (((strOf L j : Nat) : Int) != 6))
        (semB_and (b := (stI L b.st == ((strOf L j : Nat) : Int))) (semB_compare nm nm rfl rfl) (fun g1 => semB_and (b := (((strOf L j : Nat) : Int) != 6)) (semB_compare nm sem_int rfl rfl) (fun g2 => by rw [g1, g2]; exact semB_and_nil) (fun g2 => by rw [g2, Bool.and_false])) (fun g1 => by rw [g1, Bool.false_and]))
        (fun h2 => by unfold needI; rw [h1, if_neg (by simp), h2]; exact semB_or_nil) (fun h2 => by unfold needI; rw [if_neg (by simp), h2, Bool.or_true]))
      (fun h1 => by unfold needI; rw [h1, Bool.true_or])
  refine semSs_consE (mv' := some "parts") (semS_if tR (σ' := sF L ns (parts.eraseIdx (p + 1)) ++ sSgn (nmF ns j) (signRow (L.sg j)) p ++ sAB L a b pa (bracket (optB P.br b.st j) b.ps)) (fun hc => ?_) (fun hc => ?_)) rfl ?_
  · rw [need_R L P fun i hi => hbr i (hst b hbm i hi)] at hc
    rw [hc]
    have e : (bracket true b.ps).map (encT L) = [encT L .o] ++ b.ps.map (encT L) ++ [encT L .c] := by simp [bracket]
    refine semSs_one ((semS_assign okl (sem_plus_lst (sem_plus_lst (sem_list (semEs_cons rfl (SemE.eqv sem_str eo) semEs_nil) (by simp)).toT nm (by simp only [List.length_cons, List.length_nil, List.length_map]; (first | lia | omega))).toT (sem_list (semEs_cons rfl (SemE.eqv sem_str ec) semEs_nil) (by simp)) (by simp only [List.length_append, List.length_cons, List.length_nil, List.length_map]; (first | lia | omega))) (fun _ _ => rfl)).eq ?_)
    unfold sAB
    rw [e]
    kernel_rfl
  · rw [need_R L P fun i hi => hbr i (hst b hbm i hi)] at hc
    rw [hc]
    exact semSs_nil
  generalize hpb : bracket (optB P.br b.st j) b.ps = pb
  have hpbl : pb.length ≤ 2 ^ 9 + 2 := by
    rw [← hpb]; unfold bracket; split
    · simp; (first | lia | omega)
    · (first | lia | omega)
  -- the new part
  have ej : joinP P j a b = ⟨pa ++ [T.sg j] ++ pb, some j, a.row ++ b.row ++ [R.sign j]⟩ := by unfold joinP; rw [hpa, hpb]
  have hnew : SemE G (k + 1) fSc (some "parts") (sF L ns (parts.eraseIdx (p + 1)) ++ sSgn (nmF ns j) (signRow (L.sg j)) p ++ sAB L a b pa pb) (rhs (nth fB2 6)) (encPart L (joinP P j a b)) := by
    rw [ej]
    have e1 : (pa ++ [T.sg j] ++ pb).map (encT L) = pa.map (encT L) ++ [encT L (.sg j)] ++ pb.map (encT L) := by simp
    have e2 : (a.row ++ b.row ++ [R.sign j]).map (encR L) = a.row.map (encR L) ++ b.row.map (encR L) ++ [encR L (.sign j)] := by simp
    unfold encPart
    rw [e1, e2]
    exact sem_tuple (semEs_cons rfl (sem_plus_lst (sem_plus_lst nmT (sem_list (semEs_cons rfl nm semEs_nil) (by simp)) (by simp only [List.length_cons, List.length_nil, List.length_map]; (first | lia | omega))).toT nm (by simp only [List.length_append, List.length_cons, List.length_nil, List.length_map]; (first | lia | omega)))
      (semEs_cons rfl nm (semEs_cons rfl (sem_plus_lst (sem_plus_lst nmT nm (by simp only [List.length_map]; (first | lia | omega))).toT (sem_list (semEs_cons rfl nm semEs_nil) (by simp)) (by simp only [List.length_append, List.length_cons, List.length_nil, List.length_map]; (first | lia | omega))) semEs_nil))) (by simp)
  have hlen3 : ((parts.eraseIdx (p + 1)).map (encPart L)).length = parts.length - 1 := by rw [List.length_map, List.length_eraseIdx, if_pos hp1]
  refine (semSs_one ((semS_setitem (ds := (parts.eraseIdx (p + 1)).map (encPart L)) (j := ((p : Nat) : Int)) (by exact rfl) (by decide +kernel) hnew nm (by (first | lia | omega)) (by rw [hlen3]; (first | lia | omega)) (by rw [hlen3]; (first | lia | omega)) (fun _ _ => rfl)).eq (σ'' := sF L ns ((parts.eraseIdx (p + 1)).set p (joinP P j a b)) ++ sSgn (nmF ns j) (signRow (L.sg j)) p ++ sAB L a b pa pb) ?_)).weaken fun x d hx => ?_
  · have e : ((parts.eraseIdx (p + 1)).map (encPart L)).set (((p : Nat) : Int)).toNat (encPart L (joinP P j a b)) = ((parts.eraseIdx (p + 1)).set p (joinP P j a b)).map (encPart L) := by
      rw [Int.toNat_natCast, List.map_set]
    rw [e]
    kernel_rfl
  · rw [List.append_assoc]
    exact sub_append _ _ x d hx
end
end Mine
end

noncomputable section
open PySem PyProof.Rows
set_option Elab.async false
set_option linter.all false
set_option autoImplicit false
set_option maxRecDepth 100000
namespace Mine

noncomputable def placesAt (nm : Nat → Int) : Nat → Nat → Nat → List Nat
  | _, 0, _ => []
  | j, m + 1, len => plc (nm j) len :: placesAt nm (j + 1) m (len - 1)

theorem mem_erase {α : Type} : ∀ {l : List α} {i : Nat} {a : α}, a ∈ l.eraseIdx i → a ∈ l
  | [], _, _, h => by simp at h
  | b :: l, 0, a, h => List.mem_cons_of_mem _ h
  | b :: l, i + 1, a, h => by
    rw [List.eraseIdx_cons_succ] at h
    rcases List.mem_cons.mp h with rfl | h
    · exact List.mem_cons_self ..
    · exact List.mem_cons_of_mem _ (mem_erase h)

structure PInv (j : Nat) (parts : List Part) : Prop where
  st : ∀ p ∈ parts, ∀ a, p.st = some a → a < j
  sz : ∀ p ∈ parts, p.ps.length + 5 ≤ 8 * 2 ^ j ∧ p.row.length + 5 ≤ 8 * 2 ^ j

theorem step_inv {P : Par} {j p : Nat} {parts parts' : List Part} (h : formStep P j p parts = some parts') (I : PInv j parts) : PInv (j + 1) parts' ∧ parts'.length + 1 = parts.length := by
  unfold formStep at h
  cases ha : parts[p]? with
  | none => rw [ha] at h; cases h
  | some a =>
  cases hb : parts[p + 1]? with
  | none => rw [ha, hb] at h; cases h
  | some b =>
  rw [ha, hb] at h
  cases h
  have ham := List.mem_of_getElem? ha
  have hbm := List.mem_of_getElem? hb
  obtain ⟨hp1, _⟩ := List.getElem?_eq_some_iff.mp hb
  have hm : ∀ q, q ∈ (parts.eraseIdx (p + 1)).set p (joinP P j a b) → q = joinP P j a b ∨ q ∈ parts := fun q hq => by
    rcases List.mem_or_eq_of_mem_set hq with h | h
    · exact .inr (mem_erase h)
    · exact .inl h
  have h1 := I.sz a ham
  have h2 := I.sz b hbm
  have hpow : 2 ^ (j + 1) = 2 * 2 ^ j := by rw [Nat.pow_succ]; (first | lia | omega)
  refine ⟨⟨fun q hq c hc => ?_, fun q hq => ?_⟩, by rw [List.length_set, List.length_eraseIdx, if_pos hp1]; (first | lia | omega)⟩
  · rcases hm q hq with rfl | h
    · have : some j = some c := hc
      cases this; (first | lia | omega)
    · have := I.st q h c hc; (first | lia | omega)
  · rw [hpow]
    rcases hm q hq with rfl | h
    · have hbk : ∀ (c : Bool) (l : List T), (bracket c l).length ≤ l.length + 2 := fun c l => by unfold bracket; split <;> simp
      have b1 := hbk (optB P.bl a.st j) a.ps
      have b2 := hbk (optB P.br b.st j) b.ps
      unfold joinP
      simp only [List.length_append, List.length_cons, List.length_nil]
      (first | lia | omega)
    · have := I.sz q h; (first | lia | omega)

section
variable {G : Glo} {k : Nat}

theorem form_loop (L : Lab) (P : Par) {ns : List Int} (hn : ns.length ≤ 3) (hsg : ∀ i, i < ns.length → L.sg i = ((nmF ns i).fmod 13).toNat) (hbl : ∀ a b, a < b → b < ns.length → P.bl a b = needL (strOf L a) (strOf L b)) (hbr : ∀ a b, a < b → b < ns.length → P.br a b = needR (strOf L a) (strOf L b)) :
    ∀ (m j : Nat) (parts final : List Part), j + m = ns.length → parts.length = m + 1 → PInv j parts → formRun P j (placesAt (nmF ns) j m parts.length) parts = some final →
      ForRel (Turn G (k + 1) fSc (some "parts") fT2 fB2) ((List.range' j m).map fun i => .int (nmF ns i)) (sF L ns parts) (sF L ns final) .next
  | 0, j, parts, final, _, _, _, h => by cases h; exact .nil
  | m + 1, j, parts, final, hjm, hl, I, h => by
    rw [placesAt, formRun] at h
    cases hs : formStep P j (plc (nmF ns j) parts.length) parts with
    | none => rw [hs] at h; cases h
    | some parts' =>
    rw [hs] at h
    obtain ⟨I', hl'⟩ := step_inv hs I
    have hpow : 2 ^ j ≤ 2 ^ 3 := Nat.pow_le_pow_right (by decide) (by (first | lia | omega))
    rw [List.range'_succ, List.map_cons]
    refine .next (f_turn2 L P (hsg j (by (first | lia | omega))) (by (first | lia | omega)) (by (first | lia | omega)) (fun a ha => hbl a j ha (by (first | lia | omega))) (fun a ha => hbr a j ha (by (first | lia | omega))) I.st (fun p hp => ?_) hs) (form_loop L P hn hsg hbl hbr m (j + 1) parts' final (by (first | lia | omega)) (by (first | lia | omega)) I' ?_)
    · have := I.sz p hp; (first | lia | omega)
    · have h' : formRun P (j + 1) (placesAt (nmF ns) (j + 1) m (parts.length - 1)) parts' = some final := h
      rw [show parts'.length = parts.length - 1 by (first | lia | omega)]
      exact h'

theorem formula_ok (hG : G.fns = theFns) (L : Lab) (P : Par) {ns : List Int} (hn : ns.length ≤ 3) (hsg : ∀ i, i < ns.length → L.sg i = ((nmF ns i).fmod 13).toNat) (hth : ∀ i, i < ns.length + 1 → L.th i = (kdF ns i).toNat)
    (hbl : ∀ a b, a < b → b < ns.length → P.bl a b = needL (strOf L a) (strOf L b)) (hbr : ∀ a b, a < b → b < ns.length → P.br a b = needR (strOf L a) (strOf L b)) {ps : List T} {st : Option Nat} {due : List R}
    (h : formRun P 0 (placesAt (nmF ns) 0 ns.length (ns.length + 1)) (parts0 (ns.length + 1)) = some [⟨ps, st, due⟩]) :
    CallOK G (k + 2) "_law_formula" [.lst (ns.map .int)] (.tup [.lst (ps.map (encT L)), .lst (due.map (encR L))]) := by
  have hk : ∀ i, 0 ≤ kdF ns i ∧ kdF ns i < 6 := fun i => by
    cases i with
    | zero => exact ⟨Int.fmod_nonneg_of_pos _ (by decide), Int.fmod_lt_of_pos _ (by decide)⟩
    | succ i => exact ⟨Int.fmod_nonneg_of_pos _ (by decide), Int.fmod_lt_of_pos _ (by decide)⟩
  obtain ⟨hfor1, _⟩ := forRel_fold (step := Turn G (k + 1) fSc (some "parts") fT1 fB1) (fun i => PV.int (kdF ns i)) (sF1 L ns) (fun acc i => acc ++ [partI i]) (fun n acc => acc.length ≤ n) (List.range (ns.length + 1)) 0 [] (by simp)
    (fun m acc i hm hl hi => ⟨f_turn1 L (by rw [List.length_range] at hl; (first | lia | omega)) (hk i).1 (hk i).2 (hth i (List.mem_range.mp hi)), by rw [List.length_append]; simp; (first | lia | omega)⟩)
  rw [foldl_parts, List.nil_append] at hfor1
  have e0 : parts0 (ns.length + 1) = (List.range (ns.length + 1)).map partI := rfl
  have hl0 : (parts0 (ns.length + 1)).length = ns.length + 1 := by rw [e0, List.length_map, List.length_range]
  have I0 : PInv 0 (parts0 (ns.length + 1)) := by
    rw [e0]
    refine ⟨fun p hp a ha => ?_, fun p hp => ?_⟩
    · obtain ⟨i, _, rfl⟩ := List.mem_map.mp hp
      cases ha
    · obtain ⟨i, _, rfl⟩ := List.mem_map.mp hp
      exact ⟨by simp [partI], by simp [partI]⟩
  have hfor2 := form_loop (G := G) (k := k) L P hn hsg hbl hbr ns.length 0 (parts0 (ns.length + 1)) _ (by (first | lia | omega)) hl0 I0 (by rw [hl0]; exact h)
  have enum : (List.range' 0 ns.length).map (fun i => PV.int (nmF ns i)) = ns.map PV.int := by
    rw [← List.range_eq_range']
    conv => rhs; rw [nums_eq ns]
    rw [List.map_map]; rfl
  rw [enum] at hfor2
  refine callOK_ex (ns := ["numbers"]) (by rw [hG]; exact fn_formula) (fun pm cd doc vs h => ?_) (by simp) rfl rfl rfl rfl (fun y hy => ?_) ?_
  · match vs, h with
    | [v], _ => rfl
  · simp at hy; subst hy; exact .inl (by kernel_rfl)
  · show SemR _ _ _ _ [("numbers", .lst (ns.map PV.int))] _ _
    refine semR_cons (f_kinds (by (first | lia | omega))) ?_
    refine semR_consE (semS_intro (.inl (by kernel_rfl)) semF_nil (fun _ _ => rfl)) (by kernel_rfl : _ = sF1 L ns []) ?_
    refine semR_cons (semS_for (semI_list nm) rfl hfor1) ?_
    refine semR_consE (semS_assign okl (sem_call (by kernel_rfl) (by decide +kernel) (by rw [hG]; exact fn_signs) rfl semEs_nil (signs_ok hG)) (fun _ _ => rfl)) (by kernel_rfl : _ = sF L ns (parts0 (ns.length + 1))) ?_
    refine semR_cons (semS_for (semI_list nm) rfl hfor2) ?_
    have hit : ∀ {σ : Sig} {p q t : Pos} {c : Nat}, σ.lookup ("parts" : Str) = some (.lst [encPart L ⟨ps, st, due⟩]) → SemE G (k + 1) fSc (some "parts") σ (.Subscript (.Name ("parts" : Str) p) (.Constant (.int 0) c q) t) (encPart L ⟨ps, st, due⟩) := fun h => sem_item (nmT h) sem_int rfl
    exact semR_return (sem_tuple (semEs_cons rfl (sem_item (hit (by exact rfl)).toT sem_int (by exact rfl)) (semEs_cons rfl (sem_item (hit (by exact rfl)).toT sem_int (by exact rfl)) semEs_nil)) (by simp)).toT
end
end Mine
end

noncomputable section
open PySem PyProof.Rows
set_option Elab.async false
set_option linter.all false
set_option autoImplicit false
set_option maxRecDepth 100000
namespace Mine

/-! ## counting the brackets -/
noncomputable def cntO (l : List T) : Int := ((l.filter fun t => t = T.o).length : Int) - ((l.filter fun t => t = T.c).length : Int)
theorem cnt_append (a b : List T) : cntO (a ++ b) = cntO a + cntO b := by
  unfold cntO; rw [List.filter_append, List.filter_append, List.length_append, List.length_append]; (first | lia | omega)
theorem cnt_cons (t : T) (b : List T) : cntO (t :: b) = cntO [t] + cntO b := cnt_append [t] b
theorem cnt_o : cntO [T.o] = 1 := rfl
theorem cnt_c : cntO [T.c] = -1 := rfl
theorem cnt_sg (i : Nat) : cntO [T.sg i] = 0 := rfl
theorem cnt_th (i : Nat) : cntO [T.th i] = 0 := rfl
theorem runD_cnt : ∀ (l : List T) (d e : Nat), runD d l = some e → (e : Int) = d + cntO l
  | [], d, e, h => by cases h; simp [cntO]
  | .o :: r, d, e, h => by rw [runD_o] at h; have := runD_cnt r _ _ h; rw [cnt_cons, cnt_o]; (first | lia | omega)
  | .c :: r, 0, e, h => by cases h
  | .c :: r, d + 1, e, h => by have := runD_cnt r d _ h; rw [cnt_cons, cnt_c]; (first | lia | omega)
  | .sg i :: r, d, e, h => by rw [runD_sg] at h; have := runD_cnt r _ _ h; rw [cnt_cons, cnt_sg]; (first | lia | omega)
  | .th i :: r, d, e, h => by rw [runD_th] at h; have := runD_cnt r _ _ h; rw [cnt_cons, cnt_th]; (first | lia | omega)
theorem bal_cnt {l : List T} (h : bal l = true) : cntO l = 0 := by
  have := runD_cnt l 0 0 (bal_iff.mp h); (first | lia | omega)
noncomputable def isBr (t : T) : Bool := decide (t = T.o) || decide (t = T.c)
theorem br_cnt {t : T} (h : isBr t = true) : cntO [t] ≠ 0 := by
  unfold isBr at h
  simp at h
  rcases h with rfl | rfl
  · rw [cnt_o]; decide
  · rw [cnt_c]; decide
theorem wrong_less {a b : List T} {t : T} (h : bal (a ++ t :: b) = true) (ht : isBr t = true) : bal (a ++ b) = false := by
  cases q : bal (a ++ b) with
  | false => rfl
  | true =>
    have h1 := bal_cnt h
    have h2 := bal_cnt q
    rw [cnt_append, cnt_cons] at h1
    rw [cnt_append] at h2
    exact absurd (by (first | lia | omega)) (br_cnt ht)
theorem wrong_more {a b : List T} {t : T} (h : bal (a ++ t :: b) = true) (ht : isBr t = true) : bal (a ++ [t] ++ t :: b) = false := by
  cases q : bal (a ++ [t] ++ t :: b) with
  | false => rfl
  | true =>
    have h1 := bal_cnt h
    have h2 := bal_cnt q
    rw [cnt_append, cnt_cons] at h1
    rw [cnt_append, cnt_append, cnt_cons t b] at h2
    exact absurd (by (first | lia | omega)) (br_cnt ht)

/-! ## comparing rows -/
theorem eqe_row (L : Lab) (a b : R) : ∃ x, eqe (encR L a) (encR L b) = some x ∧ (x = true → isLeaf a = isLeaf b) ∧ (a = b → x = true) := by
  cases a with
  | leaf i =>
    cases b with
    | leaf j => exact ⟨_, rfl, fun _ => rfl, fun e => by cases e; simp⟩
    | sign j => exact ⟨_, rfl, (fun h => nomatch h), (fun e => nomatch e)⟩
  | sign i =>
    cases b with
    | leaf j => exact ⟨_, rfl, (fun h => nomatch h), (fun e => nomatch e)⟩
    | sign j => exact ⟨_, rfl, fun _ => rfl, fun e => by cases e; simp⟩
theorem eqAll_row (L : Lab) : ∀ (a b : List R), a.length = b.length → ∃ x, eqAll (a.map (encR L)) (b.map (encR L)) = some x ∧ (x = true → a.map isLeaf = b.map isLeaf) ∧ (a = b → x = true)
  | [], [], _ => ⟨true, rfl, fun _ => rfl, fun _ => rfl⟩
  | [], _ :: _, h => by simp at h
  | _ :: _, [], h => by simp at h
  | a :: as, b :: bs, h => by
    obtain ⟨x, h1, h2, h3⟩ := eqe_row L a b
    obtain ⟨y, h4, h5, h6⟩ := eqAll_row L as bs (by simpa using h)
    refine ⟨x && y, ?_, fun e => ?_, fun e => ?_⟩
    · rw [List.map_cons, List.map_cons, eqAll, h1, h4]
    · rw [Bool.and_eq_true] at e
      rw [List.map_cons, List.map_cons, h2 e.1, h5 e.2]
    · cases e
      rw [h3 rfl, h6 rfl]; rfl
theorem ne_same (L : Lab) (a : List R) : cmpop .NotEq (.lst (a.map (encR L))) (.lst (a.map (encR L))) = some false := by
  obtain ⟨x, h1, _, h3⟩ := eqAll_row L a a rfl
  show (if _ then _ else _) = _
  rw [if_pos rfl, h1, h3 rfl]; rfl
theorem ne_other (L : Lab) {a b : List R} (h : a.map isLeaf ≠ b.map isLeaf) : cmpop .NotEq (.lst (a.map (encR L))) (.lst (b.map (encR L))) = some true := by
  show (if _ then _ else _) = _
  by_cases q : a.length = b.length
  · obtain ⟨x, h1, h2, _⟩ := eqAll_row L a b q
    rw [if_pos (by rw [List.length_map, List.length_map]; exact q), h1]
    cases x with
    | true => exact absurd (h2 rfl) h
    | false => rfl
  · rw [if_neg (by rw [List.length_map, List.length_map]; exact q)]

/-! ## the law -/
theorem pick_map {α β : Type} (f : α → β) (l : List α) (lo hi st : Option Int) : pick (l.map f) lo hi st = (pick l lo hi st).map f := by
  unfold pick
  rw [List.length_map, List.map_filterMap]
  congr 1
  funext i
  simp

section
variable {G : Glo} {k : Nat}
noncomputable def wSc : Scope := (defAt 61).2.2
noncomputable def wS (i : Nat) : Stmt := nth (defAt 61).2.1 i
noncomputable def base3 : List Int := [3905, 826, 1637]
noncomputable def cntR (row : List Int) : Nat := if row.length < 2 then 2 else 3
noncomputable def numsOf (row : List Int) : List Int := (List.range (cntR row)).map fun i => base3.getD i 0 + (pick row (some (i : Nat)) none (some (cntR row : Nat))).sum
noncomputable def sW0 (script row : List Int) : Sig := [("script", .lst (script.map .int)), ("row", .lst (row.map .int)), ("count", natI (cntR row))]

theorem w_numbers {script row : List Int} (hl : row.length ≤ 2 ^ 20) : SemS G k wSc none (sW0 script row) (wS 2) none (put (sW0 script row) "numbers" (.lst ((numsOf row).map .int))) .next := by
  have hsub : ∀ y d, ([("row", .lst (row.map .int)), ("count", natI (cntR row))] : Sig).lookup y = some d → (sW0 script row).lookup y = some d := sub_cons (by exact rfl) (sub_cons (by exact rfl) sub_nil)
  have e : (numsOf row).map PV.int = (List.range (cntR row)).map fun i => .int (base3.getD i 0 + (pick row (some (i : Nat)) none (some (cntR row : Nat))).sum) := by unfold numsOf; rw [List.map_map]; rfl
  rw [e]
  have hc : cntR row = 2 ∨ cntR row = 3 := by unfold cntR; split <;> simp
  refine semS_assign_comp okl (semI_range (n := (cntR row : Nat)) (by kernel_rfl) rfl nm (by (first | lia | omega)) (by (first | lia | omega))) rfl (compScope_of (σc := [("row", .lst (row.map .int)), ("count", natI (cntR row))]) (by kernel_rfl) (by kernel_rfl) (by kernel_rfl) (by kernel_rfl) hsub) (free_of hsub (by kernel_rfl)) (by simp [upTo]; (first | lia | omega)) (swaps_comp (by kernel_rfl) (by kernel_rfl)) ?_
  have e0 : upTo ((cntR row : Nat) : Int).toNat = (List.range (cntR row)).map natI := rfl
  rw [e0]
  refine compRel_map natI _ _ fun i hi => ⟨rfl, ?_⟩
  have hi' : i < 3 := by have := List.mem_range.mp hi; (first | lia | omega)
  have hps : pslice (.lst (row.map .int)) (some ((i : Nat) : Int)) none (some ((cntR row : Nat) : Int)) = some (.lst ((pick row (some (i : Nat)) none (some (cntR row : Nat))).map .int)) := by
    rw [pslice_lst (by rw [List.length_map]; exact hl) (by intro q; injection q with q; (first | lia | omega)), pick_map]
  have hb : pitem (.tup (base3.map .int)) (.int ((i : Nat) : Int)) = some (.int (base3.getD i 0)) := by
    refine pitem_tup (by (first | lia | omega)) (by (first | lia | omega)) ?_
    rw [Int.toNat_natCast]
    match i, hi' with
    | 0, _ => rfl
    | 1, _ => rfl
    | 2, _ => rfl
  exact sem_binop (sem_item (sem_tuple (semEs_cons rfl sem_int (semEs_cons rfl sem_int (semEs_cons rfl sem_int semEs_nil))) (by simp)).toT nm hb).toT (sem_sum (by kernel_rfl) rfl (sem_slice nmT (semP_some nm) semP_none (semP_some nm) hps).toT (pints_int _)) rfl
end
end Mine
end

noncomputable section
open PySem PyProof.Rows
set_option Elab.async false
set_option linter.all false
set_option autoImplicit false
set_option maxRecDepth 100000
namespace Mine

/-! ## the labels and the words of the strengths -/
theorem fm {a : Int} {b : Int} (hb : 0 < b) : 0 ≤ a.fmod b ∧ a.fmod b < b := ⟨Int.fmod_nonneg_of_pos _ hb, Int.fmod_lt_of_pos _ hb⟩
theorem kdF_lt (ns : List Int) (i : Nat) : 0 ≤ kdF ns i ∧ kdF ns i < 6 := by
  cases i with
  | zero => exact fm (by decide)
  | succ i => exact fm (by decide)
noncomputable def labOf (ns : List Int) : Lab where
  sg := fun i => ((nmF ns i).fmod 13).toNat
  th := fun i => (kdF ns i).toNat
  hs := fun i => by have := fm (a := nmF ns i) (b := 13) (by decide); (first | lia | omega)
  ht := fun i => by have := kdF_lt ns i; (first | lia | omega)

structure ParOK (n : Nat) (L : Lab) (P : Par) : Prop where
  r6 : ∀ i, P.r6 i = ((signRow (L.sg i)).2.1 == 35)
  bl : ∀ a b, a < b → b < n → P.bl a b = needL (strOf L a) (strOf L b)
  br : ∀ a b, a < b → b < n → P.br a b = needR (strOf L a) (strOf L b)
  most : (thereS ((List.range n).map (strOf L))).length = P.most + 1
  lev : ∀ i, i < n → P.lev i + (thereS ((List.range n).map (strOf L))).idxOf (strOf L i) = P.most

theorem told_six : ∀ j, j < 13 → ((signRow j).2.1 == 35) = ((signRow j).2.2 == 6) := by decide +kernel
theorem beyond (ns : List Int) {i : Nat} (h : ns.length ≤ i) : ((signRow ((labOf ns).sg i)).2.1 == 35) = false := by
  have : nmF ns i = 0 := by unfold nmF; rw [List.getD_eq_getElem?_getD, List.getElem?_eq_none h]; rfl
  show ((signRow ((nmF ns i).fmod 13).toNat).2.1 == 35) = false
  rw [this]; decide +kernel

theorem idx_lt {s : Nat} {l : List Nat} (h : s ∈ l) (h7 : s < 7) : (thereS l).idxOf s < (thereS l).length := by
  apply List.idxOf_lt_length_iff.mpr
  unfold thereS
  rw [List.mem_filter]
  exact ⟨List.mem_range.mpr h7, by rw [List.contains_iff_mem]; exact h⟩

theorem parOK3 {ns : List Int} (hn : ns.length = 3) : ParOK 3 (labOf ns) (parOf3 (strOf (labOf ns) 0) (strOf (labOf ns) 1) (strOf (labOf ns) 2)).par := by
  have h0 := strOf_lt (labOf ns) 0
  have h1 := strOf_lt (labOf ns) 1
  have h2 := strOf_lt (labOf ns) 2
  have r0 := told_six _ ((labOf ns).hs 0)
  have r1 := told_six _ ((labOf ns).hs 1)
  have r2 := told_six _ ((labOf ns).hs 2)
  have er : (List.range 3).map (strOf (labOf ns)) = [strOf (labOf ns) 0, strOf (labOf ns) 1, strOf (labOf ns) 2] := rfl
  have i0 := idx_lt (s := strOf (labOf ns) 0) (l := [strOf (labOf ns) 0, strOf (labOf ns) 1, strOf (labOf ns) 2]) (by simp) h0
  have i1 := idx_lt (s := strOf (labOf ns) 1) (l := [strOf (labOf ns) 0, strOf (labOf ns) 1, strOf (labOf ns) 2]) (by simp) h1
  have i2 := idx_lt (s := strOf (labOf ns) 2) (l := [strOf (labOf ns) 0, strOf (labOf ns) 1, strOf (labOf ns) 2]) (by simp) h2
  refine ⟨fun i => ?_, fun a b hab hb => ?_, fun a b hab hb => ?_, ?_, fun i hi => ?_⟩
  · match i with
    | 0 => exact r0.symm
    | 1 => exact r1.symm
    | 2 => exact r2.symm
    | i + 3 => rw [beyond ns (by (first | lia | omega))]; rfl
  · have : (a = 0 ∧ b = 1) ∨ (a = 0 ∧ b = 2) ∨ (a = 1 ∧ b = 2) := by (first | lia | omega)
    rcases this with ⟨rfl, rfl⟩ | ⟨rfl, rfl⟩ | ⟨rfl, rfl⟩ <;> rfl
  · have : (a = 0 ∧ b = 1) ∨ (a = 0 ∧ b = 2) ∨ (a = 1 ∧ b = 2) := by (first | lia | omega)
    rcases this with ⟨rfl, rfl⟩ | ⟨rfl, rfl⟩ | ⟨rfl, rfl⟩ <;> rfl
  · rw [er]
    show _ = (thereS [_, _, _]).length - 1 + 1
    (first | lia | omega)
  · rw [er]
    match i, hi with
    | 0, _ => show (thereS [_, _, _]).length - 1 - _ + _ = (thereS [_, _, _]).length - 1; (first | lia | omega)
    | 1, _ => show (thereS [_, _, _]).length - 1 - _ + _ = (thereS [_, _, _]).length - 1; (first | lia | omega)
    | 2, _ => show (thereS [_, _, _]).length - 1 - _ + _ = (thereS [_, _, _]).length - 1; (first | lia | omega)

theorem parOK2 {ns : List Int} (hn : ns.length = 2) : ParOK 2 (labOf ns) (parOf2 (strOf (labOf ns) 0) (strOf (labOf ns) 1)).par := by
  have h0 := strOf_lt (labOf ns) 0
  have h1 := strOf_lt (labOf ns) 1
  have r0 := told_six _ ((labOf ns).hs 0)
  have r1 := told_six _ ((labOf ns).hs 1)
  have er : (List.range 2).map (strOf (labOf ns)) = [strOf (labOf ns) 0, strOf (labOf ns) 1] := rfl
  have i0 := idx_lt (s := strOf (labOf ns) 0) (l := [strOf (labOf ns) 0, strOf (labOf ns) 1]) (by simp) h0
  have i1 := idx_lt (s := strOf (labOf ns) 1) (l := [strOf (labOf ns) 0, strOf (labOf ns) 1]) (by simp) h1
  refine ⟨fun i => ?_, fun a b hab hb => ?_, fun a b hab hb => ?_, ?_, fun i hi => ?_⟩
  · match i with
    | 0 => exact r0.symm
    | 1 => exact r1.symm
    | i + 2 => rw [beyond ns (by (first | lia | omega))]; rfl
  · have : a = 0 ∧ b = 1 := by (first | lia | omega)
    rcases this with ⟨rfl, rfl⟩
    rfl
  · have : a = 0 ∧ b = 1 := by (first | lia | omega)
    rcases this with ⟨rfl, rfl⟩
    rfl
  · rw [er]
    show _ = (thereS [_, _]).length - 1 + 1
    (first | lia | omega)
  · rw [er]
    match i, hi with
    | 0, _ => show (thereS [_, _]).length - 1 - _ + _ = (thereS [_, _]).length - 1; (first | lia | omega)
    | 1, _ => show (thereS [_, _]).length - 1 - _ + _ = (thereS [_, _]).length - 1; (first | lia | omega)

theorem plc_lt (n : Int) {len : Nat} (h : 2 ≤ len) : plc n len < len - 1 := by
  have := fm (a := ((n.fdiv 13).fmod 60)) (b := (len : Int) - 1) (by (first | lia | omega))
  unfold plc
  (first | lia | omega)

/- the check, for the numbers at hand -/
theorem chk_all {ns : List Int} (hn : ns.length = 2 ∨ ns.length = 3) : ∃ P, ParOK ns.length (labOf ns) P ∧ chk P (placesAt (nmF ns) 0 ns.length (ns.length + 1)) = true ∧ (placesAt (nmF ns) 0 ns.length (ns.length + 1)).length = ns.length := by
  rcases hn with hn | hn
  · refine ⟨_, hn ▸ parOK2 hn, ?_, by rw [hn]; rfl⟩
    rw [hn]
    have e : placesAt (nmF ns) 0 2 (2 + 1) = [plc (nmF ns 0) 3, plc (nmF ns 1) 2] := rfl
    have h0 := plc_lt (nmF ns 0) (len := 3) (by decide)
    have h1 := plc_lt (nmF ns 1) (len := 2) (by decide)
    have h1' : plc (nmF ns 1) 2 = 0 := by (first | lia | omega)
    rw [e, h1']
    exact chk2 _ (par2 _ (strOf_lt _ 0) _ (strOf_lt _ 1)) _ (by (first | lia | omega))
  · refine ⟨_, hn ▸ parOK3 hn, ?_, by rw [hn]; rfl⟩
    rw [hn]
    have e : placesAt (nmF ns) 0 3 (3 + 1) = [plc (nmF ns 0) 4, plc (nmF ns 1) 3, plc (nmF ns 2) 2] := rfl
    have h0 := plc_lt (nmF ns 0) (len := 4) (by decide)
    have h1 := plc_lt (nmF ns 1) (len := 3) (by decide)
    have h2 := plc_lt (nmF ns 2) (len := 2) (by decide)
    have h2' : plc (nmF ns 2) 2 = 0 := by (first | lia | omega)
    rw [e, h2']
    exact chk3 _ (par3 _ (strOf_lt _ 0) _ (strOf_lt _ 1) _ (strOf_lt _ 2)) _ (by (first | lia | omega)) _ (by (first | lia | omega))

/- a stretch that may be read -/
structure Fine (n : Nat) (P : Par) (ps : List T) (r : List R) : Prop where
  len : ps.length ≤ 100
  sg : sgOK n ps = true
  apart : apartT (dressT P ps) = true
  dlen : (dressT P ps).length ≤ 100
  dbal : bal (dressT P ps) = true
  read : readT P 4 (dressT P ps) = some r

theorem chk_spec {P : Par} {places : List Nat} (h : chk P places = true) : ∃ ps st due, formRun P 0 places (parts0 (places.length + 1)) = some [⟨ps, st, due⟩] ∧ bal ps = true ∧ Fine places.length P ps due ∧
    ∀ q, ps[q]? = some T.o → ∃ sp r, withoutT ps q = some sp ∧ Fine places.length P sp r ∧ r.map isLeaf ≠ due.map isLeaf := by
  unfold chk at h
  split at h
  · rename_i ps st due hf
    simp only [Bool.and_eq_true, decide_eq_true_eq, beq_iff_eq] at h
    obtain ⟨⟨⟨⟨⟨⟨⟨h1, h2⟩, h3⟩, h4⟩, h5⟩, h6⟩, h7⟩, h8⟩ := h
    refine ⟨ps, st, due, hf, h3, ⟨h6, h1, h2, h5, h4, h7⟩, fun q hq => ?_⟩
    rw [List.all_eq_true] at h8
    have hql := (List.getElem?_eq_some_iff.mp hq).1
    have := h8 q (List.mem_range.mpr hql)
    rw [if_pos hq] at this
    split at this
    · rename_i sp hsp
      simp only [Bool.and_eq_true, decide_eq_true_eq] at this
      obtain ⟨⟨⟨⟨⟨g1, g2⟩, g3⟩, g4⟩, g5⟩, g6⟩ := this
      split at g6
      · rename_i r hr
        exact ⟨sp, r, hsp, ⟨g1, g2, g3, g4, g5, hr⟩, by simpa using g6⟩
      · cases g6
    · cases this
  · cases h

theorem found_sgs (L : Lab) : ∀ ps : List T, foundN L ps = (sgsOf ps).map (strOf L)
  | [] => rfl
  | .o :: r => found_sgs L r
  | .c :: r => found_sgs L r
  | .th i :: r => found_sgs L r
  | .sg i :: r => by
    show strOf L i :: foundN L r = strOf L i :: (sgsOf r).map (strOf L)
    rw [found_sgs L r]
theorem mem_sgs : ∀ {ps : List T} {i : Nat}, T.sg i ∈ ps → i ∈ sgsOf ps
  | [], i, h => nomatch h
  | .o :: r, i, h => by
    rcases List.mem_cons.mp h with h | h
    · cases h
    · exact mem_sgs (ps := r) h
  | .c :: r, i, h => by
    rcases List.mem_cons.mp h with h | h
    · cases h
    · exact mem_sgs (ps := r) h
  | .th j :: r, i, h => by
    rcases List.mem_cons.mp h with h | h
    · cases h
    · exact mem_sgs (ps := r) h
  | .sg j :: r, i, h => by
    rcases List.mem_cons.mp h with h | h
    · cases h; exact List.mem_cons_self ..
    · exact List.mem_cons_of_mem _ (mem_sgs (ps := r) h)
theorem sgOK_iff {n : Nat} {ps : List T} (h : sgOK n ps = true) (i : Nat) : i ∈ sgsOf ps ↔ i < n := by
  unfold sgOK at h
  simp only [Bool.and_eq_true, List.all_eq_true, decide_eq_true_eq] at h
  exact ⟨fun q => h.2 i q, fun q => by
    have := h.1 i (List.mem_range.mpr q)
    rwa [List.contains_iff_mem] at this⟩
theorem there_eq (L : Lab) {n : Nat} {ps : List T} (h : sgOK n ps = true) : thereS (foundN L ps) = thereS ((List.range n).map (strOf L)) := by
  unfold thereS
  rw [found_sgs]
  apply List.filter_congr
  intro s _
  rw [Bool.eq_iff_iff, List.contains_iff_mem, List.contains_iff_mem, List.mem_map, List.mem_map]
  constructor
  · rintro ⟨i, hi, e⟩; exact ⟨i, List.mem_range.mpr ((sgOK_iff h i).mp hi), e⟩
  · rintro ⟨i, hi, e⟩; exact ⟨i, (sgOK_iff h i).mpr (List.mem_range.mp hi), e⟩

theorem tx_len (L : Lab) (t : T) : (tx L t).length ≤ 3 := by
  cases kind L t with
  | o => simp [tx]
  | c => simp [tx]
  | sg j hj =>
    have := (sign_told _ (L.hs j)).2.2.2
    show (signRow (L.sg j)).1.length ≤ 3
    (first | lia | omega)
  | esc j c h => rw [h]; simp
  | quo j c h1 h => rw [h]; simp
theorem txs_len (L : Lab) : ∀ ts : List T, (txs L ts).length ≤ 3 * ts.length
  | [] => by simp [txs]
  | t :: ts => by
    have := txs_len L ts
    have := tx_len L t
    rw [txs_cons, List.length_append, List.length_cons]; (first | lia | omega)

section
variable {G : Glo} {k : Nat}
theorem checkT_ok (hG : G.fns = theFns) (L : Lab) {ts : List T} (h : ts.length ≤ 102) : CallOK G (k + 3) "_check_parenthesis" [.str ⟨(txs L ts).toArray⟩] (.bool (bal ts)) := by
  have hl : (⟨(txs L ts).toArray⟩ : Str).length ≤ 2 ^ 9 := by rw [length_L]; have := txs_len L ts; (first | lia | omega)
  have := check_ok (k := k) hG hl
  have e := check_txs L ts .none
  rw [List.append_nil] at e
  rwa [e] at this
theorem dressT_ok (hG : G.fns = theFns) {n : Nat} {L : Lab} {P : Par} (hP : ParOK n L P) {ps : List T} {r : List R} (F : Fine n P ps r) : CallOK G (k + 2) "_law_dressed" [.lst (ps.map (encT L))] (.lst ((dressT P ps).map (encT L))) :=
  dressed_ok hG L P (by have := F.len; (first | lia | omega)) (by rw [there_eq L F.sg]; exact hP.most) fun i hi => by rw [there_eq L F.sg]; exact hP.lev i ((sgOK_iff F.sg i).mp (mem_sgs hi))
theorem rowT_ok (hG : G.fns = theFns) (hT : G.tok = tokD) {n : Nat} {L : Lab} {P : Par} (hP : ParOK n L P) {ps : List T} {r : List R} (F : Fine n P ps r) : CallOK G (k + 8) "_law_row" [.lst ((dressT P ps).map (encT L))] (.lst (r.map (encR L))) :=
  row_ok (k := k) hG hT L P hP.r6 (by have := txs_len L (dressT P ps); have := F.dlen; (first | lia | omega)) F.apart F.dbal F.read
end
end Mine
end

noncomputable section
open PySem PyProof.Rows
set_option Elab.async false
set_option linter.all false
set_option autoImplicit false
set_option maxRecDepth 100000
namespace Mine

theorem item_nat {l : List Nat} {i : Int} (h0 : 0 ≤ i) (h1 : i < l.length) (h2 : l.length ≤ 2 ^ 20) : ∃ s, s ∈ l ∧ pitem (.lst (l.map natI)) (.int i) = some (natI s) := by
  have hi : i.toNat < l.length := by (first | lia | omega)
  exact ⟨l[i.toNat], List.getElem_mem hi, pitem_lst h0 (by (first | lia | omega)) (by rw [List.getElem?_map, List.getElem?_eq_getElem hi]; rfl)⟩

noncomputable def brAt (D : List T) (i : Nat) : Bool := match D[i]? with
  | some t => isBr t
  | none => false
noncomputable def opAt (D : List T) (i : Nat) : Bool := decide (D[i]? = some T.o)
noncomputable def spotsOf (D : List T) : List Nat := (List.range D.length).filter (brAt D)
noncomputable def opensOf (D : List T) : List Nat := (List.range D.length).filter (opAt D)
theorem filter_len (p : Nat → Bool) (n : Nat) : ((List.range n).filter p).length ≤ n := Nat.le_trans (List.length_filter_le _ _) (by simp)

section
variable {G : Glo} {k : Nat}
/- all that stands before the spots -/
noncomputable def sW1 (L : Lab) (script row ns : List Int) (ps D : List T) (due : List R) : Sig := [("script", .lst (script.map .int)), ("row", .lst (row.map .int)), ("count", natI (cntR row)), ("numbers", .lst (ns.map .int)), ("pieces", .lst (ps.map (encT L))), ("due", .lst (due.map (encR L))), ("dressed", .lst (D.map (encT L)))]
noncomputable def sSpots (l : List Nat) : Sig := [("spots", .lst (l.map natI))]
noncomputable def sSpot (l : List Nat) (s : Nat) : Sig := [("spots", .lst (l.map natI)), ("spot", natI s)]
noncomputable def sOpens (l m : List Nat) : Sig := [("spots", .lst (l.map natI)), ("opens", .lst (m.map natI))]

theorem sub_of_app {τ : Sig} (σ : Sig) {y : Str} {d : PV} (h : σ.lookup y = some d) : (σ ++ τ).lookup y = some d := sub_append τ σ y d h

theorem w_spots (L : Lab) {script row ns : List Int} {ps D : List T} {due : List R} (hD : D.length ≤ 2 ^ 9) :
    SemS G k wSc none (sW1 L script row ns ps D due) (wS 7) none (put (sW1 L script row ns ps D due) "spots" (.lst ((spotsOf D).map natI))) .next := by
  have hsub : ∀ y d, ([("dressed", .lst (D.map (encT L)))] : Sig).lookup y = some d → (sW1 L script row ns ps D due).lookup y = some d := sub_cons (by exact rfl) sub_nil
  have hDl : (D.map (encT L)).length = D.length := List.length_map ..
  refine semS_assign_comp okl (semI_range (n := (D.length : Int)) (by kernel_rfl) rfl (sem_len (by kernel_rfl) rfl nmT (by rw [plen_lst (by rw [hDl]; (first | lia | omega)), hDl])) (by (first | lia | omega)) (by (first | lia | omega))) rfl (compScope_of (σc := [("dressed", .lst (D.map (encT L)))]) (by kernel_rfl) (by kernel_rfl) (by kernel_rfl) (by kernel_rfl) hsub) (free_of hsub (by kernel_rfl)) (by simp [upTo]; (first | lia | omega)) (swaps_comp (by kernel_rfl) (by kernel_rfl)) ?_
  have e0 : upTo ((D.length : Nat) : Int).toNat = (List.range D.length).map natI := rfl
  unfold spotsOf
  rw [e0, ← filterMap_ite]
  refine compRel_filter natI _ _ fun i hi => ?_
  have hi' := List.mem_range.mp hi
  have hget : D[i]? = some D[i] := List.getElem?_eq_getElem hi'
  have hit : pitem (.lst (D.map (encT L))) (natI i) = some (encT L D[i]) := item_T L hget (by (first | lia | omega))
  have ht : ∀ {c : Expr} {b : Bool}, SemB G k (relabelS (scope0 (rhs (wS 7))) wSc) none (put [("dressed", .lst (D.map (encT L)))] "k" (natI i)) c b → SemTests G k (relabelS (scope0 (rhs (wS 7))) wSc) (put [("dressed", .lst (D.map (encT L)))] "k" (natI i)) [c] b := fun h => h
  have hb : brAt D i = (decide (D[i] = T.o) || decide (D[i] = T.c)) := by unfold brAt; rw [hget]; rfl
  have test : ∀ b, brAt D i = b → SemTests G k (relabelS (scope0 (rhs (wS 7))) wSc) (put [("dressed", .lst (D.map (encT L)))] "k" (natI i)) (ifs0 (rhs (wS 7))) b := by
    intro b e
    rw [← e, hb]
    exact ht (semB_or (b := decide (D[i] = T.o)) (semB_compare (sem_item nmT nm hit) sem_str rfl (eq_lpar L _)) (fun h1 => semB_or (b := decide (D[i] = T.c)) (semB_compare (sem_item nmT nm hit) sem_str rfl (eq_rpar L _)) (fun h2 => by rw [h1, h2]; exact semB_or_nil) (fun h2 => by rw [h2, Bool.or_true])) (fun h1 => by rw [h1, Bool.true_or]))
  cases h : brAt D i with
  | true => exact .inl ⟨_, rfl, test _ h, nm⟩
  | false => exact .inr ⟨rfl, test _ h⟩

theorem w_opens (L : Lab) {script row ns : List Int} {ps D : List T} {due : List R} {sp : List Nat} (hD : ps.length ≤ 2 ^ 9) :
    SemS G k wSc none (sW1 L script row ns ps D due ++ sSpots sp) (wS 9) none (put (sW1 L script row ns ps D due ++ sSpots sp) "opens" (.lst ((opensOf ps).map natI))) .next := by
  have hsub : ∀ y d, ([("pieces", .lst (ps.map (encT L)))] : Sig).lookup y = some d → (sW1 L script row ns ps D due ++ sSpots sp).lookup y = some d := sub_cons (by exact rfl) sub_nil
  have hDl : (ps.map (encT L)).length = ps.length := List.length_map ..
  refine semS_assign_comp okl (semI_range (n := (ps.length : Int)) (by kernel_rfl) rfl (sem_len (by kernel_rfl) rfl nmT (by rw [plen_lst (by rw [hDl]; (first | lia | omega)), hDl])) (by (first | lia | omega)) (by (first | lia | omega))) rfl (compScope_of (σc := [("pieces", .lst (ps.map (encT L)))]) (by kernel_rfl) (by kernel_rfl) (by kernel_rfl) (by kernel_rfl) hsub) (free_of hsub (by kernel_rfl)) (by simp [upTo]; (first | lia | omega)) (swaps_comp (by kernel_rfl) (by kernel_rfl)) ?_
  have e0 : upTo ((ps.length : Nat) : Int).toNat = (List.range ps.length).map natI := rfl
  unfold opensOf
  rw [e0, ← filterMap_ite]
  refine compRel_filter natI _ _ fun i hi => ?_
  have hi' := List.mem_range.mp hi
  have hget : ps[i]? = some ps[i] := List.getElem?_eq_getElem hi'
  have hit : pitem (.lst (ps.map (encT L))) (natI i) = some (encT L ps[i]) := item_T L hget (by (first | lia | omega))
  have ht : ∀ {c : Expr} {b : Bool}, SemB G k (relabelS (scope0 (rhs (wS 9))) wSc) none (put [("pieces", .lst (ps.map (encT L)))] "k" (natI i)) c b → SemTests G k (relabelS (scope0 (rhs (wS 9))) wSc) (put [("pieces", .lst (ps.map (encT L)))] "k" (natI i)) [c] b := fun h => h
  have hb : opAt ps i = decide (ps[i] = T.o) := by unfold opAt; rw [hget]; simp
  have test : ∀ b, opAt ps i = b → SemTests G k (relabelS (scope0 (rhs (wS 9))) wSc) (put [("pieces", .lst (ps.map (encT L)))] "k" (natI i)) (ifs0 (rhs (wS 9))) b := by
    intro b e
    rw [← e, hb]
    exact ht (semB_compare (sem_item nmT nm hit) sem_str rfl (eq_lpar L _))
  cases h : opAt ps i with
  | true => exact .inl ⟨_, rfl, test _ h, nm⟩
  | false => exact .inr ⟨rfl, test _ h⟩

theorem truth_nat {l : List Nat} (h : l.length ≤ 2 ^ 20) : truth (.lst (l.map natI)) = some (!l.isEmpty) := by
  rw [truth_lst (by rw [List.length_map]; exact h)]; cases l <;> rfl

/- the two wrong texts are refused -/
theorem w_wrong (hG : G.fns = theFns) (L : Lab) {script row ns : List Int} {ps D : List T} {due : List R} (hD : D.length ≤ 100) (hb : bal D = true) (hn : ns.length ≤ 2 ^ 9) :
    SemS G (k + 3) wSc none (sW1 L script row ns ps D due ++ sSpots (spotsOf D)) (wS 8) none (sW1 L script row ns ps D due ++ sSpots (spotsOf D)) .next := by
  have hsl : (spotsOf D).length ≤ 100 := Nat.le_trans (filter_len _ _) hD
  refine semS_if (c := !(spotsOf D).isEmpty) (semB_plain nmT (truth_nat (by (first | lia | omega))) (fun _ _ => rfl)) (fun h => ?_) (fun h => semSs_nil)
  have hpos : 0 < (spotsOf D).length := by
    cases hh : spotsOf D with
    | nil => rw [hh] at h; cases h
    | cons a r => simp
  have hidx := fm (a := ns.sum) (b := ((spotsOf D).length : Int)) (by (first | lia | omega))
  obtain ⟨s, hs, hit⟩ := item_nat hidx.1 hidx.2 (by (first | lia | omega))
  have hsm := List.mem_filter.mp hs
  have hsD := List.mem_range.mp hsm.1
  have hbr : isBr D[s] = true := by
    have := hsm.2
    unfold brAt at this
    rw [List.getElem?_eq_getElem hsD] at this
    exact this
  have hsplit : D = D.take s ++ D[s] :: D.drop (s + 1) := by
    rw [← List.drop_eq_getElem_cons hsD, List.take_append_drop]
  have w1 : bal (D.take s ++ D.drop (s + 1)) = false := wrong_less (t := D[s]) (by rw [← hsplit]; exact hb) hbr
  have w2 : bal (D.take (s + 1) ++ D.drop s) = false := by
    have := wrong_more (a := D.take s) (b := D.drop (s + 1)) (t := D[s]) (by rw [← hsplit]; exact hb) hbr
    rw [← List.drop_eq_getElem_cons hsD] at this
    have e : D.take (s + 1) = D.take s ++ [D[s]] := by rw [List.take_add_one, List.getElem?_eq_getElem hsD]; rfl
    rw [e]; exact this
  have hDl : (D.map (encT L)).length = D.length := List.length_map ..
  refine semSs_consE (semS_assign okl (sem_item nmT (sem_binop (sem_sum (by kernel_rfl) rfl nmT (pints_int ns)).toT (sem_len (by kernel_rfl) rfl nmT (plen_lst (by rw [List.length_map]; (first | lia | omega)))) (by rw [List.length_map]; exact if_neg (by (first | lia | omega)))) hit) (fun _ _ => rfl)) (by kernel_rfl : _ = sW1 L script row ns ps D due ++ sSpot (spotsOf D) s) ?_
  have hD20 : D.length ≤ 2 ^ 20 := Nat.le_trans hD (by decide)
  have p1 := ps_to (f := encT L) (l := D) (j := s) hD20 rfl
  have p2 := ps_from (f := encT L) (l := D) (j := s + 1) hD20 (succ_cast s)
  have p3 := ps_to (f := encT L) (l := D) (j := s + 1) hD20 (succ_cast s)
  have p4 := ps_from (f := encT L) (l := D) (j := s) hD20 rfl
  have hturn : ∀ wr : List T, wr.length ≤ 102 → bal wr = false → Turn G (k + 3) wSc none (forT (nth (ifB (wS 8)) 1)) (forB (nth (ifB (wS 8)) 1)) (.lst (wr.map (encT L))) (sW1 L script row ns ps D due ++ sSpot (spotsOf D) s) (sW1 L script row ns ps D due ++ sSpot (spotsOf D) s) .next := fun wr hw hbw => by
    refine ⟨_, .name okl, ?_⟩
    refine (semSs_one (semS_if (c := false) (semB_compare (sem_call (by kernel_rfl) (by decide +kernel) (by rw [hG]; exact fn_check) rfl (semEs_cons rfl (sem_join_txs L (ts := wr) rfl (by decide +kernel) nmT (by have := txs_len L wr; (first | lia | omega))) semEs_nil) (checkT_ok hG L hw)) sem_bool rfl (by rw [hbw]; rfl)) (fun h => nomatch h) (fun _ => semSs_nil))).weaken ?_
    show ∀ x d, (sW1 L script row ns ps D due ++ sSpot (spotsOf D) s).lookup x = some d → ((sW1 L script row ns ps D due ++ sSpot (spotsOf D) s) ++ ([("wrong", .lst (wr.map (encT L)))] : Sig)).lookup x = some d
    exact sub_append _ _
  have l1 : (D.take s ++ D.drop (s + 1)).length ≤ 102 := by rw [List.length_append, List.length_take, List.length_drop]; (first | lia | omega)
  have l2 : (D.take (s + 1) ++ D.drop s).length ≤ 102 := by rw [List.length_append, List.length_take, List.length_drop]; (first | lia | omega)
  have e1 : (D.take s ++ D.drop (s + 1)).map (encT L) = (D.take s).map (encT L) ++ (D.drop (s + 1)).map (encT L) := by simp
  have e2 : (D.take (s + 1) ++ D.drop s).map (encT L) = (D.take (s + 1)).map (encT L) ++ (D.drop s).map (encT L) := by simp
  have t1 := hturn _ l1 w1
  have t2 := hturn _ l2 w2
  rw [e1] at t1
  rw [e2] at t2
  refine (semSs_one (semS_for (semI_tuple (sem_tuple (semEs_cons rfl (sem_plus_lst (sem_slice nmT semP_none (semP_some nm) semP_none p1).toT (sem_slice nmT (semP_some (sem_binop nmT sem_int rfl)) semP_none semP_none p2) ?_) (semEs_cons rfl (sem_plus_lst (sem_slice nmT semP_none (semP_some (sem_binop nmT sem_int rfl)) semP_none p3).toT (sem_slice nmT (semP_some nm) semP_none semP_none p4) ?_) semEs_nil)) (by simp))) rfl (.next t1 (.next t2 .nil)))).weaken ?_
  · simp only [List.length_map, List.length_take, List.length_drop]; (first | lia | omega)
  · simp only [List.length_map, List.length_take, List.length_drop]; (first | lia | omega)
  · intro x d hx
    have e : sW1 L script row ns ps D due ++ sSpot (spotsOf D) s = (sW1 L script row ns ps D due ++ sSpots (spotsOf D)) ++ ([("spot", natI s)] : Sig) := by rw [List.append_assoc]; rfl
    rw [e]
    exact sub_append _ _ x d hx
end
end Mine
end

noncomputable section
open PySem PyProof.Rows
set_option Elab.async false
set_option linter.all false
set_option autoImplicit false
set_option maxRecDepth 100000
namespace Mine
section
variable {G : Glo} {k : Nat}

theorem numsOf_len (row : List Int) : (numsOf row).length = cntR row := by unfold numsOf; simp
theorem cntR_or (row : List Int) : cntR row = 2 ∨ cntR row = 3 := by unfold cntR; split <;> simp

theorem law_ok (hG : G.fns = theFns) (hT : G.tok = tokD) {script : List Int} (hs : script.length ≤ 2 ^ 20) : CallOK G (k + 9) "law" [.lst (script.map .int)] (.bool true) := by
  have hrow : (script.take 63).length ≤ 63 := by rw [List.length_take]; (first | lia | omega)
  generalize hr : script.take 63 = row at hrow
  have hnl := numsOf_len row
  have hc := cntR_or row
  generalize hns : numsOf row = ns at hnl
  obtain ⟨P, hP, hchk, hplen⟩ := chk_all (ns := ns) (by (first | lia | omega))
  obtain ⟨ps, st, due, hform, hbal, F, hopen⟩ := chk_spec hchk
  rw [hplen] at hform F hopen
  generalize hL : labOf ns = L at hP
  have hsg : ∀ i, L.sg i = ((nmF ns i).fmod 13).toNat := fun i => by rw [← hL]; rfl
  have hth : ∀ i, L.th i = (kdF ns i).toNat := fun i => by rw [← hL]; rfl
  have hformula := formula_ok (k := k + 6) hG L P (by (first | lia | omega)) (fun i _ => hsg i) (fun i _ => hth i) hP.bl hP.br hform
  have hdress := dressT_ok (k := k + 6) hG hP F
  have hrowc := rowT_ok (k := k) hG hT hP F
  generalize hD : dressT P ps = D at *
  have hDl : D.length ≤ 100 := by rw [← hD]; exact F.dlen
  have hDb : bal D = true := by rw [← hD]; exact F.dbal
  have hpl := F.len
  have t1 : (txs L ps).length ≤ 2 ^ 9 := by have := txs_len L ps; (first | lia | omega)
  have t2 : (txs L D).length ≤ 2 ^ 9 := by have := txs_len L D; (first | lia | omega)
  refine callOK_ex (ns := ["script"]) (by rw [hG]; exact fn_law) (fun pm cd doc vs h => ?_) (by simp) rfl rfl rfl rfl (fun y hy => ?_) ?_
  · match vs, h with
    | [v], _ => rfl
  · simp at hy; subst hy; exact .inl (by kernel_rfl)
  · show SemR _ _ _ _ [("script", .lst (script.map .int))] _ _
    have p0 : pslice (.lst (script.map .int)) none (some 63) none = some (.lst (row.map .int)) := by
      rw [← hr]; exact ps_to (j := 63) hs rfl
    refine semR_cons (semS_assign okc (sem_slice nmT semP_none (semP_some sem_int) semP_none p0) (fun _ _ => rfl)) ?_
    have hrl : (row.map PV.int).length = row.length := List.length_map ..
    refine semR_consE (semS_assign okc (sem_ifexp (c := decide (row.length < 2)) (d := natI (cntR row)) (semB_compare (sem_len (by kernel_rfl) rfl nmT (plen_lst (by rw [hrl]; (first | lia | omega)))) sem_int rfl (by rw [hrl]; show some (decide ((row.length : Int) < 2)) = _; congr 1; rw [Bool.eq_iff_iff]; simp; (first | lia | omega))) (fun h => ?_) (fun h => ?_)) (fun _ _ => rfl)) (by kernel_rfl : _ = sW0 script row) ?_
    · have : cntR row = 2 := if_pos (of_decide_eq_true h)
      rw [this]; exact sem_int
    · have : cntR row = 3 := if_neg (of_decide_eq_false h)
      rw [this]; exact sem_int
    have hnum := w_numbers (G := G) (k := k + 8) (script := script) (row := row) (by (first | lia | omega))
    rw [hns] at hnum
    refine semR_cons hnum ?_
    refine semR_cons (semS_unpack (xs := ["pieces", "due"]) (by rfl) rfl (fun y hy => ?_) (sem_call (by kernel_rfl) (by decide +kernel) (by rw [hG]; exact fn_formula) rfl (semEs_cons rfl nm semEs_nil) hformula) (fun _ _ => rfl) (swapped_env (by kernel_rfl))) ?_
    · simp only [List.mem_cons, List.not_mem_nil, or_false] at hy
      rcases hy with rfl | rfl
      · exact okc
      · exact okl
    refine semR_consE (semS_assign okc (sem_call (by kernel_rfl) (by decide +kernel) (by rw [hG]; exact fn_dressed) rfl (semEs_cons rfl nm semEs_nil) hdress) (fun _ _ => rfl)) (by kernel_rfl : _ = sW1 L script row ns ps D due) ?_
    -- taken
    refine semR_if (c := false) (semB_or (b := false) (semB_compare (sem_call (by kernel_rfl) (by decide +kernel) (by rw [hG]; exact fn_check) rfl (semEs_cons rfl (sem_join_txs L rfl (by decide +kernel) nmT t1) semEs_nil) (checkT_ok (k := k + 5) hG L (by (first | lia | omega)))) sem_bool rfl (by rw [hbal]; rfl))
      (fun _ => semB_or (b := false) (semB_compare (sem_call (by kernel_rfl) (by decide +kernel) (by rw [hG]; exact fn_check) rfl (semEs_cons rfl (sem_join_txs L rfl (by decide +kernel) nmT t2) semEs_nil) (checkT_ok (k := k + 5) hG L (by (first | lia | omega)))) sem_bool rfl (by rw [hDb]; rfl)) (fun _ => semB_or_nil) id) id) (fun h => nomatch h) (fun _ => ?_)
    -- read
    refine semR_if (c := false) (semB_compare (sem_call (by kernel_rfl) (by decide +kernel) (by rw [hG]; exact fn_row) rfl (semEs_cons rfl nm semEs_nil) hrowc) nm rfl (ne_same L due)) (fun h => nomatch h) (fun _ => ?_)
    -- the spots
    refine semR_consE (w_spots L (by (first | lia | omega))) (by kernel_rfl : _ = sW1 L script row ns ps D due ++ sSpots (spotsOf D)) ?_
    refine semR_cons (w_wrong (k := k + 5) hG L hDl hDb (by (first | lia | omega))) ?_
    refine semR_consE (w_opens L (by (first | lia | omega))) (by kernel_rfl : _ = sW1 L script row ns ps D due ++ sOpens (spotsOf D) (opensOf ps)) ?_
    have hol : (opensOf ps).length ≤ 100 := Nat.le_trans (filter_len _ _) hpl
    refine semR_if (c := !(opensOf ps).isEmpty) (semB_plain nmT (truth_nat (by (first | lia | omega))) (fun _ _ => rfl)) (fun h => ?_) (fun _ => semR_return sem_bool.toT)
    have hpos : 0 < (opensOf ps).length := by
      cases hh : opensOf ps with
      | nil => rw [hh] at h; cases h
      | cons a r => simp
    have hidx := fm (a := ns.sum) (b := ((opensOf ps).length : Int)) (by (first | lia | omega))
    obtain ⟨q, hq, hit⟩ := item_nat hidx.1 hidx.2 (by (first | lia | omega))
    have hqo : ps[q]? = some T.o := by have := (List.mem_filter.mp hq).2; unfold opAt at this; exact of_decide_eq_true this
    obtain ⟨sp, r, hwo, Fs, hne⟩ := hopen q hqo
    have hsp := without_ok (k := k + 7) hG L (first := q) (by (first | lia | omega)) hwo
    refine semR_cons (semS_assign okl (sem_call (by kernel_rfl) (by decide +kernel) (by rw [hG]; exact fn_without) rfl (semEs_cons rfl nm (semEs_cons rfl (sem_item nmT (sem_binop (sem_sum (by kernel_rfl) rfl nmT (pints_int ns)).toT (sem_len (by kernel_rfl) rfl nmT (plen_lst (by rw [List.length_map]; (first | lia | omega)))) (by rw [List.length_map]; exact if_neg (by (first | lia | omega)))) hit) semEs_nil)) hsp) (fun _ _ => rfl)) ?_
    exact semR_return (sem_compare (sem_call (by kernel_rfl) (by decide +kernel) (by rw [hG]; exact fn_row) rfl (semEs_cons rfl (sem_call (by kernel_rfl) (by decide +kernel) (by rw [hG]; exact fn_dressed) rfl (semEs_cons rfl nm semEs_nil) (dressT_ok (k := k + 6) hG hP Fs)) semEs_nil) (rowT_ok (k := k) hG hT hP Fs)) nm rfl (ne_other L hne)).toT
end
end Mine
end

noncomputable section
open PySem PySem.W PyProof.Rows
set_option Elab.async false
set_option linter.all false
set_option autoImplicit false
set_option maxRecDepth 100000
namespace Mine

theorem base_of {prog view : Program} {loose : List Str} {mean : ExcName → Option Value} {w : World} {mg mb : Str → Option Value} {h : Heap} (T : Top view loose mean mg mb h)
    (hrecs : (recsOf view).map (fun d => (d.name, (d.params, d.body, d.scope))) = theFns)
    (hfree : ∀ nm ∈ (["len", "sum", "range", "enumerate"] : List Str), nm ∉ startupNames ∧ nm ∉ loose ∧ nm ∉ (recsOf view).map (·.name) ∧ nm ∉ (litsOf view).map (·.1) ∧ nm ∉ (clssOf view loose).map (·.name))
    (htok : ∃ a, mg "EXACT_TOKEN_TYPES" = some (.ref a) ∧ StrTab prog w h a tokD) : Base ⟨prog, w, mg, mb, theFns, tokD⟩ h where
  g := T.g
  b := T.b
  nolimit := T.nolimit
  fn := fun nm x e => by
    have hm := lookup_mem e
    have hm' : (nm, x) ∈ theFns := hm
    rw [← hrecs] at hm'
    obtain ⟨d, hd, he⟩ := List.mem_map.mp hm'
    cases he
    exact T.fn d hd
  tok := htok
  blt := fun nm hn => by
    obtain ⟨h1, h2, h3, h4, h5⟩ := hfree nm hn
    exact T.free nm h1 h2 h3 h4 h5
  len := (T.builtins "len" (by decide +kernel)).trans (by kernel_rfl)
  sum := (T.builtins "sum" (by decide +kernel)).trans (by kernel_rfl)
  range := (T.builtins "range" (by decide +kernel)).trans (by kernel_rfl)
  enumerate := (T.builtins "enumerate" (by decide +kernel)).trans (by kernel_rfl)

theorem ints_rep {G : Glo} {P : Params} {h : Heap} : ∀ (ns : List Int) (vs : List Value), WellAll P h vs (ofPys (ns.map PyData.int)) → GReps G (fun _ => False) h vs (ns.map .int)
  | [], vs, W => by cases W; exact .nil
  | n :: ns, vs, W => by
    cases W with
    | cons a r =>
      cases a
      exact .cons (.int _ _) (ints_rep ns _ r)
theorem script_rep {G : Glo} {P : Params} {h : Heap} {a : Addr} {ns : List Int} (W : Well P h (.ref a) (ofPy (PyData.list (ns.map PyData.int)))) : GRep G (fun _ => False) h (.ref a) (.lst (ns.map .int)) := by
  cases W with
  | list h1 h2 => exact .lst (fun q => q) h1 (ints_rep ns _ h2)

theorem room_top : Room 9 callerA := ⟨rfl, by decide, by decide⟩

theorem good_end {c : ClaimW} {cl : Str → Option Addr} {mean : ExcName → Option Value} {args : List WData} {s₁ s' : Shared} (x : Ext s₁ s') (hb : AllBare s'.gens) (hr : ∀ cls, c.raises args cls = false) (hp : c.post args (.bool true) args = true) :
    GoodWG c cl mean args s₁ (.ok (.ret (.bool true))) s' :=
  ⟨.inl ⟨_, _, [], rfl, hr, ReadsW.bool true, hp, fun _ => ⟨List.nodup_nil, fun _ hm => (nomatch hm)⟩⟩, .of_keep x.keep, x.os, hb⟩

noncomputable def tokS : List (Str × PyData) := tokTab.map fun p => (⟨p.1.toArray⟩, .int p.2)
theorem tokS_eq : tokS.map (fun p => (PyData.str p.1, p.2)) = tokD := by kernel_rfl
theorem tokS_nodup : (tokS.map (·.1)).Nodup := by decide +kernel
theorem tok_in {K : Frag} {h : Heap} {mg : Str → Option Value} {a : Addr} (prog : Program) (w : World) (X : K.In h) (N : h.Ns mainGlobals mg) (e : nsIn K mainGlobals "EXACT_TOKEN_TYPES" = some (some (.ref a)))
    (e1 : KTD.tabLook KTD.flatLooks (fun b => K.lookup b) a tokS = true) (e2 : KTD.hashesOf (fun b => K.lookup b) a = tokS.map fun p => (PySem.strKind prog w).hash p.1) :
    ∃ a, mg "EXACT_TOKEN_TYPES" = some (.ref a) ∧ StrTab prog w h a tokD :=
  ⟨a, mg_of X N e, tokS_eq ▸ kt_tab_in prog w X e1 tokS_nodup e2⟩

theorem finish {prog : Program} {w : World} {mg mb : Str → Option Value} {c : ClaimW} {cl : Str → Option Addr} {mean : ExcName → Option Value} {s₁ : Shared} {fa a : Addr} {ns : List Int} {P : Params} {args : List WData}
    (hB : Base ⟨prog, w, mg, mb, theFns, tokD⟩ s₁.heap) (hg : s₁.gens = #[]) (hmg : mg "law" = some (.ref fa)) (W : Well P s₁.heap (.ref a) (ofPy (PyData.list (ns.map PyData.int)))) (hl : ns.length ≤ 2 ^ 20) (hr : ∀ cls, c.raises args cls = false) (hp : c.post args (.bool true) args = true) :
    wpAny (model prog w) callerA (call (.ref fa) [.ref a]) (fun v s' => GoodWG c cl mean args s₁ (.ok (.ret v)) s') (fun e s' => GoodWG c cl mean args s₁ (.error e) s') s₁ := by
  have hc := law_ok (k := 0) (G := ⟨prog, w, mg, mb, theFns, tokD⟩) rfl rfl hl
  have hrun := call_of_ok hc room_top hB (AllBare.of_eq hg) (fun _ h => h.elim) hmg (.cons (script_rep W) .nil)
  refine wpAny_mono hrun (fun v s' q => ?_) fun _ _ q => q.elim
  obtain ⟨x, r⟩ := q
  cases r
  exact good_end x (x.bare (AllBare.of_eq hg)) hr hp

/- the names of the text and its table of signs, as the top leaves them -/
noncomputable def objT3 (P : Params) : Obj :=
{ cls := Value.type "dict", data := Data.dict #[
  { hash := PyData.keyHash P (Str.ofString "__name__"), key := Value.str (Str.ofString "__name__") 165, val := Value.str (Str.ofString "law_ph0117_01") 414 },
  { hash := PyData.keyHash P (Str.ofString "__doc__"), key := Value.str (Str.ofString "__doc__") 166, val := Value.none },
  { hash := PyData.keyHash P (Str.ofString "__package__"), key := Value.str (Str.ofString "__package__") 167, val := Value.none },
  { hash := PyData.keyHash P (Str.ofString "__loader__"), key := Value.str (Str.ofString "__loader__") 168, val := Value.builtin "__main__.__loader__#opaque" },
  { hash := PyData.keyHash P (Str.ofString "__spec__"), key := Value.str (Str.ofString "__spec__") 169, val := Value.none },
  { hash := PyData.keyHash P (Str.ofString "__annotations__"), key := Value.str (Str.ofString "__annotations__") 170, val := Value.ref 6 },
  { hash := PyData.keyHash P (Str.ofString "__builtins__"), key := Value.str (Str.ofString "__builtins__") 171, val := Value.ref 4 },
  { hash := PyData.keyHash P (Str.ofString "__file__"), key := Value.str (Str.ofString "__file__") 173, val := Value.str (Str.ofString "/claim/cut.py") 172 },
  { hash := PyData.keyHash P (Str.ofString "__cached__"), key := Value.str (Str.ofString "__cached__") 174, val := Value.none },
  { hash := PyData.keyHash P (Str.ofString "_iter_escaped_chars"), key := Value.str (Str.ofString "_iter_escaped_chars") 198, val := Value.ref 21 },
  { hash := PyData.keyHash P (Str.ofString "_strip_quoted_realnames"), key := Value.str (Str.ofString "_strip_quoted_realnames") 210, val := Value.ref 28 },
  { hash := PyData.keyHash P (Str.ofString "_check_parenthesis"), key := Value.str (Str.ofString "_check_parenthesis") 220, val := Value.ref 35 },
  { hash := PyData.keyHash P (Str.ofString "LPAR"), key := Value.str (Str.ofString "LPAR") 222, val := Value.int 7 221 },
  { hash := PyData.keyHash P (Str.ofString "RPAR"), key := Value.str (Str.ofString "RPAR") 224, val := Value.int 8 223 },
  { hash := PyData.keyHash P (Str.ofString "LSQB"), key := Value.str (Str.ofString "LSQB") 226, val := Value.int 9 225 },
  { hash := PyData.keyHash P (Str.ofString "RSQB"), key := Value.str (Str.ofString "RSQB") 228, val := Value.int 10 227 },
  { hash := PyData.keyHash P (Str.ofString "COLON"), key := Value.str (Str.ofString "COLON") 230, val := Value.int 11 229 },
  { hash := PyData.keyHash P (Str.ofString "COMMA"), key := Value.str (Str.ofString "COMMA") 232, val := Value.int 12 231 },
  { hash := PyData.keyHash P (Str.ofString "SEMI"), key := Value.str (Str.ofString "SEMI") 234, val := Value.int 13 233 },
  { hash := PyData.keyHash P (Str.ofString "PLUS"), key := Value.str (Str.ofString "PLUS") 236, val := Value.int 14 235 },
  { hash := PyData.keyHash P (Str.ofString "MINUS"), key := Value.str (Str.ofString "MINUS") 238, val := Value.int 15 237 },
  { hash := PyData.keyHash P (Str.ofString "STAR"), key := Value.str (Str.ofString "STAR") 240, val := Value.int 16 239 },
  { hash := PyData.keyHash P (Str.ofString "SLASH"), key := Value.str (Str.ofString "SLASH") 242, val := Value.int 17 241 },
  { hash := PyData.keyHash P (Str.ofString "VBAR"), key := Value.str (Str.ofString "VBAR") 244, val := Value.int 18 243 },
  { hash := PyData.keyHash P (Str.ofString "AMPER"), key := Value.str (Str.ofString "AMPER") 246, val := Value.int 19 245 },
  { hash := PyData.keyHash P (Str.ofString "LESS"), key := Value.str (Str.ofString "LESS") 248, val := Value.int 20 247 },
  { hash := PyData.keyHash P (Str.ofString "GREATER"), key := Value.str (Str.ofString "GREATER") 250, val := Value.int 21 249 },
  { hash := PyData.keyHash P (Str.ofString "EQUAL"), key := Value.str (Str.ofString "EQUAL") 252, val := Value.int 22 251 },
  { hash := PyData.keyHash P (Str.ofString "DOT"), key := Value.str (Str.ofString "DOT") 254, val := Value.int 23 253 },
  { hash := PyData.keyHash P (Str.ofString "PERCENT"), key := Value.str (Str.ofString "PERCENT") 256, val := Value.int 24 255 },
  { hash := PyData.keyHash P (Str.ofString "LBRACE"), key := Value.str (Str.ofString "LBRACE") 258, val := Value.int 25 257 },
  { hash := PyData.keyHash P (Str.ofString "RBRACE"), key := Value.str (Str.ofString "RBRACE") 260, val := Value.int 26 259 },
  { hash := PyData.keyHash P (Str.ofString "EQEQUAL"), key := Value.str (Str.ofString "EQEQUAL") 262, val := Value.int 27 261 },
  { hash := PyData.keyHash P (Str.ofString "NOTEQUAL"), key := Value.str (Str.ofString "NOTEQUAL") 264, val := Value.int 28 263 },
  { hash := PyData.keyHash P (Str.ofString "LESSEQUAL"), key := Value.str (Str.ofString "LESSEQUAL") 266, val := Value.int 29 265 },
  { hash := PyData.keyHash P (Str.ofString "GREATEREQUAL"), key := Value.str (Str.ofString "GREATEREQUAL") 268, val := Value.int 30 267 },
  { hash := PyData.keyHash P (Str.ofString "TILDE"), key := Value.str (Str.ofString "TILDE") 270, val := Value.int 31 269 },
  { hash := PyData.keyHash P (Str.ofString "CIRCUMFLEX"), key := Value.str (Str.ofString "CIRCUMFLEX") 272, val := Value.int 32 271 },
  { hash := PyData.keyHash P (Str.ofString "LEFTSHIFT"), key := Value.str (Str.ofString "LEFTSHIFT") 274, val := Value.int 33 273 },
  { hash := PyData.keyHash P (Str.ofString "RIGHTSHIFT"), key := Value.str (Str.ofString "RIGHTSHIFT") 276, val := Value.int 34 275 },
  { hash := PyData.keyHash P (Str.ofString "DOUBLESTAR"), key := Value.str (Str.ofString "DOUBLESTAR") 278, val := Value.int 35 277 },
  { hash := PyData.keyHash P (Str.ofString "PLUSEQUAL"), key := Value.str (Str.ofString "PLUSEQUAL") 280, val := Value.int 36 279 },
  { hash := PyData.keyHash P (Str.ofString "MINEQUAL"), key := Value.str (Str.ofString "MINEQUAL") 282, val := Value.int 37 281 },
  { hash := PyData.keyHash P (Str.ofString "STAREQUAL"), key := Value.str (Str.ofString "STAREQUAL") 284, val := Value.int 38 283 },
  { hash := PyData.keyHash P (Str.ofString "SLASHEQUAL"), key := Value.str (Str.ofString "SLASHEQUAL") 286, val := Value.int 39 285 },
  { hash := PyData.keyHash P (Str.ofString "PERCENTEQUAL"), key := Value.str (Str.ofString "PERCENTEQUAL") 288, val := Value.int 40 287 },
  { hash := PyData.keyHash P (Str.ofString "AMPEREQUAL"), key := Value.str (Str.ofString "AMPEREQUAL") 290, val := Value.int 41 289 },
  { hash := PyData.keyHash P (Str.ofString "VBAREQUAL"), key := Value.str (Str.ofString "VBAREQUAL") 292, val := Value.int 42 291 },
  { hash := PyData.keyHash P (Str.ofString "CIRCUMFLEXEQUAL"), key := Value.str (Str.ofString "CIRCUMFLEXEQUAL") 294, val := Value.int 43 293 },
  { hash := PyData.keyHash P (Str.ofString "LEFTSHIFTEQUAL"), key := Value.str (Str.ofString "LEFTSHIFTEQUAL") 296, val := Value.int 44 295 },
  { hash := PyData.keyHash P (Str.ofString "RIGHTSHIFTEQUAL"), key := Value.str (Str.ofString "RIGHTSHIFTEQUAL") 298, val := Value.int 45 297 },
  { hash := PyData.keyHash P (Str.ofString "DOUBLESTAREQUAL"), key := Value.str (Str.ofString "DOUBLESTAREQUAL") 300, val := Value.int 46 299 },
  { hash := PyData.keyHash P (Str.ofString "DOUBLESLASH"), key := Value.str (Str.ofString "DOUBLESLASH") 302, val := Value.int 47 301 },
  { hash := PyData.keyHash P (Str.ofString "DOUBLESLASHEQUAL"), key := Value.str (Str.ofString "DOUBLESLASHEQUAL") 304, val := Value.int 48 303 },
  { hash := PyData.keyHash P (Str.ofString "AT"), key := Value.str (Str.ofString "AT") 306, val := Value.int 49 305 },
  { hash := PyData.keyHash P (Str.ofString "ATEQUAL"), key := Value.str (Str.ofString "ATEQUAL") 308, val := Value.int 50 307 },
  { hash := PyData.keyHash P (Str.ofString "RARROW"), key := Value.str (Str.ofString "RARROW") 310, val := Value.int 51 309 },
  { hash := PyData.keyHash P (Str.ofString "ELLIPSIS"), key := Value.str (Str.ofString "ELLIPSIS") 312, val := Value.int 52 311 },
  { hash := PyData.keyHash P (Str.ofString "COLONEQUAL"), key := Value.str (Str.ofString "COLONEQUAL") 314, val := Value.int 53 313 },
  { hash := PyData.keyHash P (Str.ofString "EXCLAMATION"), key := Value.str (Str.ofString "EXCLAMATION") 316, val := Value.int 54 315 },
  { hash := PyData.keyHash P (Str.ofString "EXACT_TOKEN_TYPES"), key := Value.str (Str.ofString "EXACT_TOKEN_TYPES") 413, val := Value.ref 36 },
  { hash := PyData.keyHash P (Str.ofString "_law_signs"), key := Value.str (Str.ofString "_law_signs") 421, val := Value.ref 45 },
  { hash := PyData.keyHash P (Str.ofString "_law_formula"), key := Value.str (Str.ofString "_law_formula") 427, val := Value.ref 50 },
  { hash := PyData.keyHash P (Str.ofString "_law_dressed"), key := Value.str (Str.ofString "_law_dressed") 433, val := Value.ref 55 },
  { hash := PyData.keyHash P (Str.ofString "_law_marks"), key := Value.str (Str.ofString "_law_marks") 439, val := Value.ref 60 },
  { hash := PyData.keyHash P (Str.ofString "_law_read"), key := Value.str (Str.ofString "_law_read") 445, val := Value.ref 65 },
  { hash := PyData.keyHash P (Str.ofString "_law_row"), key := Value.str (Str.ofString "_law_row") 453, val := Value.ref 72 },
  { hash := PyData.keyHash P (Str.ofString "_law_without"), key := Value.str (Str.ofString "_law_without") 463, val := Value.ref 79 },
  { hash := PyData.keyHash P (Str.ofString "law"), key := Value.str (Str.ofString "law") 469, val := Value.ref 84 }] 69 }
noncomputable def objT36 (P : Params) : Obj :=
{ cls := Value.type "dict", data := Data.dict #[
  { hash := PyData.keyHash P (Str.ofString "!"), key := Value.str (Str.ofString "!") 317, val := Value.int 54 315 },
  { hash := PyData.keyHash P (Str.ofString "!="), key := Value.str (Str.ofString "!=") 319, val := Value.int 28 263 },
  { hash := PyData.keyHash P (Str.ofString "%"), key := Value.str (Str.ofString "%") 321, val := Value.int 24 255 },
  { hash := PyData.keyHash P (Str.ofString "%="), key := Value.str (Str.ofString "%=") 323, val := Value.int 40 287 },
  { hash := PyData.keyHash P (Str.ofString "&"), key := Value.str (Str.ofString "&") 325, val := Value.int 19 245 },
  { hash := PyData.keyHash P (Str.ofString "&="), key := Value.str (Str.ofString "&=") 327, val := Value.int 41 289 },
  { hash := PyData.keyHash P (Str.ofString "("), key := Value.str (Str.ofString "(") 329, val := Value.int 7 221 },
  { hash := PyData.keyHash P (Str.ofString ")"), key := Value.str (Str.ofString ")") 331, val := Value.int 8 223 },
  { hash := PyData.keyHash P (Str.ofString "*"), key := Value.str (Str.ofString "*") 333, val := Value.int 16 239 },
  { hash := PyData.keyHash P (Str.ofString "**"), key := Value.str (Str.ofString "**") 335, val := Value.int 35 277 },
  { hash := PyData.keyHash P (Str.ofString "**="), key := Value.str (Str.ofString "**=") 337, val := Value.int 46 299 },
  { hash := PyData.keyHash P (Str.ofString "*="), key := Value.str (Str.ofString "*=") 339, val := Value.int 38 283 },
  { hash := PyData.keyHash P (Str.ofString "+"), key := Value.str (Str.ofString "+") 341, val := Value.int 14 235 },
  { hash := PyData.keyHash P (Str.ofString "+="), key := Value.str (Str.ofString "+=") 343, val := Value.int 36 279 },
  { hash := PyData.keyHash P (Str.ofString ","), key := Value.str (Str.ofString ",") 345, val := Value.int 12 231 },
  { hash := PyData.keyHash P (Str.ofString "-"), key := Value.str (Str.ofString "-") 347, val := Value.int 15 237 },
  { hash := PyData.keyHash P (Str.ofString "-="), key := Value.str (Str.ofString "-=") 349, val := Value.int 37 281 },
  { hash := PyData.keyHash P (Str.ofString "->"), key := Value.str (Str.ofString "->") 351, val := Value.int 51 309 },
  { hash := PyData.keyHash P (Str.ofString "."), key := Value.str (Str.ofString ".") 353, val := Value.int 23 253 },
  { hash := PyData.keyHash P (Str.ofString "..."), key := Value.str (Str.ofString "...") 355, val := Value.int 52 311 },
  { hash := PyData.keyHash P (Str.ofString "/"), key := Value.str (Str.ofString "/") 357, val := Value.int 17 241 },
  { hash := PyData.keyHash P (Str.ofString "//"), key := Value.str (Str.ofString "//") 359, val := Value.int 47 301 },
  { hash := PyData.keyHash P (Str.ofString "//="), key := Value.str (Str.ofString "//=") 361, val := Value.int 48 303 },
  { hash := PyData.keyHash P (Str.ofString "/="), key := Value.str (Str.ofString "/=") 363, val := Value.int 39 285 },
  { hash := PyData.keyHash P (Str.ofString ":"), key := Value.str (Str.ofString ":") 365, val := Value.int 11 229 },
  { hash := PyData.keyHash P (Str.ofString ":="), key := Value.str (Str.ofString ":=") 367, val := Value.int 53 313 },
  { hash := PyData.keyHash P (Str.ofString ";"), key := Value.str (Str.ofString ";") 369, val := Value.int 13 233 },
  { hash := PyData.keyHash P (Str.ofString "<"), key := Value.str (Str.ofString "<") 371, val := Value.int 20 247 },
  { hash := PyData.keyHash P (Str.ofString "<<"), key := Value.str (Str.ofString "<<") 373, val := Value.int 33 273 },
  { hash := PyData.keyHash P (Str.ofString "<<="), key := Value.str (Str.ofString "<<=") 375, val := Value.int 44 295 },
  { hash := PyData.keyHash P (Str.ofString "<="), key := Value.str (Str.ofString "<=") 377, val := Value.int 29 265 },
  { hash := PyData.keyHash P (Str.ofString "="), key := Value.str (Str.ofString "=") 379, val := Value.int 22 251 },
  { hash := PyData.keyHash P (Str.ofString "=="), key := Value.str (Str.ofString "==") 381, val := Value.int 27 261 },
  { hash := PyData.keyHash P (Str.ofString ">"), key := Value.str (Str.ofString ">") 383, val := Value.int 21 249 },
  { hash := PyData.keyHash P (Str.ofString ">="), key := Value.str (Str.ofString ">=") 385, val := Value.int 30 267 },
  { hash := PyData.keyHash P (Str.ofString ">>"), key := Value.str (Str.ofString ">>") 386, val := Value.int 34 275 },
  { hash := PyData.keyHash P (Str.ofString ">>="), key := Value.str (Str.ofString ">>=") 387, val := Value.int 45 297 },
  { hash := PyData.keyHash P (Str.ofString "@"), key := Value.str (Str.ofString "@") 388, val := Value.int 49 305 },
  { hash := PyData.keyHash P (Str.ofString "@="), key := Value.str (Str.ofString "@=") 389, val := Value.int 50 307 },
  { hash := PyData.keyHash P (Str.ofString "["), key := Value.str (Str.ofString "[") 390, val := Value.int 9 225 },
  { hash := PyData.keyHash P (Str.ofString "]"), key := Value.str (Str.ofString "]") 391, val := Value.int 10 227 },
  { hash := PyData.keyHash P (Str.ofString "^"), key := Value.str (Str.ofString "^") 392, val := Value.int 32 271 },
  { hash := PyData.keyHash P (Str.ofString "^="), key := Value.str (Str.ofString "^=") 393, val := Value.int 43 293 },
  { hash := PyData.keyHash P (Str.ofString "{"), key := Value.str (Str.ofString "{") 394, val := Value.int 25 257 },
  { hash := PyData.keyHash P (Str.ofString "|"), key := Value.str (Str.ofString "|") 395, val := Value.int 18 243 },
  { hash := PyData.keyHash P (Str.ofString "|="), key := Value.str (Str.ofString "|=") 396, val := Value.int 42 291 },
  { hash := PyData.keyHash P (Str.ofString "}"), key := Value.str (Str.ofString "}") 397, val := Value.int 26 259 },
  { hash := PyData.keyHash P (Str.ofString "~"), key := Value.str (Str.ofString "~") 398, val := Value.int 31 269 }] 48 }
noncomputable def fragT (P : Params) : Frag := [(3, objT3 P), (36, objT36 P)]
theorem fragT_keys (P : Params) : [3, 36] = (fragT P).map (·.1) := rfl
theorem fragT_ns (P : Params) : nsIn (fragT P) mainGlobals "EXACT_TOKEN_TYPES" = some (some (.ref 36)) := by kernel_rfl
theorem fragT_look (P : Params) : KTD.tabLook KTD.flatLooks (fun b => (fragT P).lookup b) 36 tokS = true := by kernel_rfl
theorem fragT_hash (prog : Program) (w : World) : KTD.hashesOf (fun b => (fragT w.params).lookup b) 36 = tokS.map fun p => (PySem.strKind prog w).hash p.1 := by kernel_rfl
theorem fragT_tok {h : Heap} {mg : Str → Option Value} (prog : Program) (w : World) (X : (fragT w.params).In h) (N : h.Ns mainGlobals mg) : ∃ a, mg "EXACT_TOKEN_TYPES" = some (.ref a) ∧ StrTab prog w h a tokD :=
  tok_in prog w X N (fragT_ns w.params) (fragT_look w.params) (fragT_hash prog w)
end Mine
end

open PySem PySem.W PyProof.Rows
open PySem.W.X
set_option Elab.async false
set_option linter.all false
set_option maxRecDepth 100000
namespace Mine
/- the text's statements, each by its place: a head that names them so stays small -/
def stAt (i : Nat) : Stmt := (PySem.Challenge.pw_ph0117_01.main.body[i]?).getD (.Pass default)
def progM : Program := { PySem.Challenge.pw_ph0117_01 with main := { PySem.Challenge.pw_ph0117_01.main with body := [stAt 0, stAt 1, stAt 2, stAt 3, stAt 4, stAt 5, stAt 6, stAt 7, stAt 8, stAt 9, stAt 10, stAt 11, stAt 12, stAt 13, stAt 14, stAt 15, stAt 16, stAt 17, stAt 18, stAt 19, stAt 20, stAt 21, stAt 22, stAt 23, stAt 24, stAt 25, stAt 26, stAt 27, stAt 28, stAt 29, stAt 30, stAt 31, stAt 32, stAt 33, stAt 34, stAt 35, stAt 36, stAt 37, stAt 38, stAt 39, stAt 40, stAt 41, stAt 42, stAt 43, stAt 44, stAt 45, stAt 46, stAt 47, stAt 48, stAt 49, stAt 50, stAt 51, stAt 52, stAt 53, stAt 54, stAt 55, stAt 56, stAt 57, stAt 58, stAt 59, stAt 60, stAt 61] } }
theorem progM_eq : progM = PySem.Challenge.pw_ph0117_01 := by kernel_rfl
def lawM : OpenLaw := { PySem.Challenge.rw_ph0117_01 with prog := progM }
theorem of_lawM (h : lawM.Holds) : PySem.Challenge.rw_ph0117_01.Holds := by
  have e : lawM = PySem.Challenge.rw_ph0117_01 := by
    show ({ PySem.Challenge.rw_ph0117_01 with prog := progM } : OpenLaw) = _
    rw [progM_eq]; rfl
  exact e ▸ h
end Mine
set_option maxHeartbeats 8000000 in
theorem PySem.Challenge.cw_ph0117_01_holds : PySem.Challenge.rw_ph0117_01.Holds := by
  refine Mine.of_lawM ?_
  w_on
  o_law
  o_head (kHook Mine.fragT [3, 36] Mine.fragT_keys)
  case hw => w_witness2
  k_fill
  intro w s₀ s₁ mg mb G Y fa o pm cd doc dV kV ho hd hcd hD hmg hg args vals as hpre hlay hrd hwl hlo
  have KX := kIn_of Y
  refine Ground.open G ?_
  intro T B D TE TW
  clear ho hd hcd hD
  wrow_args hpre hlay hrd hwl hlo
  have htok := Mine.fragT_tok Mine.lawM.row.prog w KX T.g
  have hB := Mine.base_of (prog := Mine.lawM.row.prog) (w := w) T (by kernel_rfl) (by decide +kernel) htok
  refine Mine.finish hB hg hmg (by assumption) (by omega) (fun _ => rfl) ?_
  first | rfl | wrow_post
