import PyProof.Rows.All
import Wide.All
import OpenK.AllK
import Wide.FinOn
import Lean
import PySem.Challenge.RW_rs0218_01
open PySem PySem.W PySem.Calls PyProof.Rows
set_option Elab.async false
set_option autoImplicit false
set_option maxRecDepth 100000
set_option maxHeartbeats 8000000
set_option linter.all false
namespace Mine
set_option tactic.hygienic false

inductive MV where
  | none | bool (b : Bool) | int (i : Int) | str (s : Str) | tup (l : List MV) | ref (a : Addr) | raw (v : Value)

inductive MO where
  | list (items : List MV)
  | inst (cls : Addr) (d : Addr) (fs : List (Str × MV))
  | dict (items : List (Str × MV))

noncomputable abbrev Mu := Addr → Option MO
noncomputable abbrev Sg := List (Str × MV)

noncomputable def Mu.set (μ : Mu) (a : Addr) (o : MO) : Mu := fun b => if b = a then some o else μ b

noncomputable def muts (μ : Mu) (b : Addr) : Prop := ∃ a o, μ a = some o ∧ (b = a ∨ ∃ c fs, o = .inst c b fs)

mutual
inductive Is (h : Heap) : MV → Value → Prop
  | none : Is h .none .none
  | bool (b) : Is h (.bool b) (.bool b)
  | int (i t) : Is h (.int i) (.int i t)
  | str (s t) : Is h (.str s) (.str s t)
  | ref (a) : Is h (.ref a) (.ref a)
  | raw (v) : Is h (.raw v) v
  | tup {a l vs} : IsTup h a vs.toArray → IsL h l vs → Is h (.tup l) (.ref a)
inductive IsL (h : Heap) : List MV → List Value → Prop
  | nil : IsL h [] []
  | cons {m v ms vs} : Is h m v → IsL h ms vs → IsL h (m :: ms) (v :: vs)
end

/-- tuples stay where they are -/
noncomputable def TupKeep (h h' : Heap) : Prop := ∀ a items, IsTup h a items → IsTup h' a items

mutual
theorem Is.keep {h h' : Heap} (k : TupKeep h h') : ∀ {m v}, Is h m v → Is h' m v
  | _, _, .none => .none
  | _, _, .bool b => .bool b
  | _, _, .int i t => .int i t
  | _, _, .str s t => .str s t
  | _, _, .ref a => .ref a
  | _, _, .raw v => .raw v
  | _, _, .tup ht hl => .tup (k _ _ ht) (IsL.keep k hl)
theorem IsL.keep {h h' : Heap} (k : TupKeep h h') : ∀ {m v}, IsL h m v → IsL h' m v
  | _, _, .nil => .nil
  | _, _, .cons a b => .cons (Is.keep k a) (IsL.keep k b)
end

noncomputable def ListIs (h : Heap) (a : Addr) (items : List MV) : Prop := ∃ (vs : List Value) (c : Nat), h.get? a = some (listOf vs.toArray c) ∧ IsL h items vs
theorem isList_of {h : Heap} {a : Addr} {vs : List Value} {c : Nat} (e : h.get? a = some (listOf vs.toArray c)) : h.IsList a vs.toArray := ⟨_, e, rfl, c, rfl⟩

/-- a field (or an item) of a dict whose keys are strs -/
structure EntIs (P : Params) (h : Heap) (f : Str × MV) (e : DictEntry) : Prop where
  key : ∃ t, e.key = .str f.1 t
  hash : e.hash = PyData.keyHash P f.1
  val : Is h f.2 e.val

inductive EntsIs (P : Params) (h : Heap) : List (Str × MV) → List DictEntry → Prop
  | nil : EntsIs P h [] []
  | cons {f e fs es} : EntIs P h f e → EntsIs P h fs es → EntsIs P h (f :: fs) (e :: es)

noncomputable def DictIs (P : Params) (h : Heap) (d : Addr) (fs : List (Str × MV)) : Prop :=
  ∃ es n, h.get? d = some (dictOf es n) ∧ EntsIs P h fs es

noncomputable def ObjIs (P : Params) (h : Heap) (a : Addr) : MO → Prop
  | .list items => ListIs h a items
  | .inst C d fs => h.get? a = some (instObj C d) ∧ DictIs P h d fs
  | .dict fs => DictIs P h a fs

structure HR (P : Params) (base : Heap) (μ : Mu) (h : Heap) : Prop where
  stays : ∀ b o, base.get? b = some o → h.get? b = some o
  objs : ∀ a o, μ a = some o → ObjIs P h a o
  fresh : ∀ b, muts μ b → base.get? b = none
  apart : ∀ a C d fs, μ a = some (.inst C d fs) → μ d = none ∧ ∀ a' C' fs', μ a' = some (.inst C' d fs') → a' = a

structure Ext (μ : Mu) (h : Heap) (μ' : Mu) (h' : Heap) : Prop where
  keep : ∀ b o, h.get? b = some o → ¬ muts μ b → h'.get? b = some o
  grow : ∀ b, muts μ' b → muts μ b ∨ h.get? b = none
  alive : ∀ b o, h.get? b = some o → ∃ o', h'.get? b = some o'

theorem Ext.refl {μ : Mu} {h : Heap} : Ext μ h μ h := ⟨fun zz zz e zz => e, fun zz m => .inl m, fun zz o e => ⟨o, e⟩⟩
theorem Ext.trans {μ₁ μ₂ μ₃ : Mu} {h₁ h₂ h₃ : Heap} (x : Ext μ₁ h₁ μ₂ h₂) (y : Ext μ₂ h₂ μ₃ h₃) : Ext μ₁ h₁ μ₃ h₃ := by
  refine ⟨fun b o e n => ?_, fun b m => ?_, fun b o e => ?_⟩
  · refine y.keep b o (x.keep b o e n) fun m => ?_
    rcases x.grow b m with q | q
    · exact n q
    · rw [q] at e; cases e
  · rcases y.grow b m with q | q
    · exact x.grow b q
    · by_cases n : muts μ₁ b
      · exact .inl n
      · right
        cases e : h₁.get? b with
        | none => rfl
        | some o => rw [x.keep b o e n] at q; cases q
  · obtain ⟨o', e'⟩ := x.alive b o e
    exact y.alive b o' e'

theorem instObj_ne_tup {h : Heap} {a : Addr} {items : Array Value} (t : IsTup h a items) {C d : Addr} : h.get? a ≠ some (instObj C d) := by
  obtain ⟨o, ho, hc, _⟩ := t
  intro e; rw [ho] at e; cases e; simp at hc
theorem list_ne_tup {h : Heap} {a : Addr} {items items' : Array Value} (t : IsTup h a items) (l : h.IsList a items') : False := by
  obtain ⟨o, ho, hc, _⟩ := t
  obtain ⟨o', ho', hc', _⟩ := l
  rw [ho] at ho'; cases ho'; rw [hc] at hc'; simp at hc'
theorem dict_ne_tup {h : Heap} {a : Addr} {items : Array Value} (t : IsTup h a items) {es n} : h.get? a ≠ some (dictOf es n) := by
  obtain ⟨o, ho, hc, _⟩ := t
  intro e; rw [ho] at e; cases e; simp at hc
theorem HR.not_tup {P : Params} {base : Heap} {μ : Mu} {h : Heap} (H : HR P base μ h) {a : Addr} {items : Array Value} (t : IsTup h a items) : ¬ muts μ a := by
  rintro ⟨b, o, hb, rfl | ⟨c, fs, rfl⟩⟩
  · have z := H.objs _ _ hb
    cases o with
    | list l => obtain ⟨vs, c, hl, _⟩ := z; exact list_ne_tup t (isList_of hl)
    | inst C d fs => exact instObj_ne_tup t z.1
    | dict fs => obtain ⟨es, n, hd, _⟩ := z; exact dict_ne_tup t hd
  · obtain ⟨_, es, n, hd, _⟩ := H.objs _ _ hb; exact dict_ne_tup t hd
theorem HR.tupKeep {P : Params} {base : Heap} {μ μ' : Mu} {h h' : Heap} (H : HR P base μ h) (x : Ext μ h μ' h') : TupKeep h h' := fun a items t => by
  have n := H.not_tup t
  obtain ⟨o, ho, r⟩ := t
  exact ⟨o, x.keep a o ho n, r⟩
theorem tupKeep_of {h h' : Heap} (k : ∀ b o, h.get? b = some o → h'.get? b = some o) : TupKeep h h' := fun _ _ ⟨o, ho, r⟩ => ⟨o, k _ _ ho, r⟩
theorem EntsIs.keep {P : Params} {h h' : Heap} (k : TupKeep h h') : ∀ {fs es}, EntsIs P h fs es → EntsIs P h' fs es
  | _, _, .nil => .nil
  | _, _, .cons e r => .cons ⟨e.key, e.hash, e.val.keep k⟩ (EntsIs.keep k r)

/-- the world's facts, at the call of law -/
structure WF (w : World) (K : Frag) (base : Heap) : Prop where
  kin : K.In base
  lim : base.NoLimit
  bi : ∃ mb, base.Ns builtinsNs mb ∧ ∀ x : Str, x ≠ "__name__" → mb x = bootBuiltins x
  mg : ∃ mg, base.Ns mainGlobals mg

noncomputable def Room (n : Nat) (A : Around) : Prop := A.handled = none ∧ A.depth + 5 * n ≤ 900 ∧ A.units + 20 * n ≤ 9000

/-- what stands when a tree has come to its end -/
structure Done (P : Params) (base : Heap) (μ : Mu) (s : Shared) (μ' : Mu) (s' : Shared) : Prop where
  hr : HR P base μ' s'.heap
  ext : Ext μ s.heap μ' s'.heap
  gens : s'.gens = s.gens
  os : s'.os = s.os
theorem Done.refl {P : Params} {base : Heap} {μ : Mu} {s : Shared} (H : HR P base μ s.heap) : Done P base μ s μ s := ⟨H, .refl, rfl, rfl⟩
theorem Done.tok {P : Params} {base : Heap} {μ : Mu} {s : Shared} (H : HR P base μ s.heap) {t : Nat} : Done P base μ s μ { s with toks := t } := ⟨H, .refl, rfl, rfl⟩
theorem Done.trans {P : Params} {base : Heap} {μ μ' μ'' : Mu} {s s' s'' : Shared} (x : Done P base μ s μ' s') (y : Done P base μ' s' μ'' s'') : Done P base μ s μ'' s'' :=
  ⟨y.hr, x.ext.trans y.ext, y.gens.trans x.gens, y.os.trans x.os⟩

structure GEnv (base : Heap) (sc : Scope) (env : Env) : Prop where
  sc_ : env.scope = sc
  kind : env.scope.kind = ScopeKind.function
  globals : env.globals = mainGlobals
  builtins : env.builtins = builtinsNs
  low : base.get? env.locals = none
  apart : env.cells.Pairwise fun x y => x.2 ≠ y.2
  clow : ∀ n c, env.cells.lookup n = some c → base.get? c = none ∧ c ≠ env.locals
  cs : ∀ x, env.scope.names.lookup x = some NameKind.cell → (env.cells.lookup x).isSome = true

structure FrR (sc : Scope) (env : Env) (σ : Sg) (μ : Mu) (h : Heap) : Prop where
  own : ¬ muts μ env.locals
  ownc : ∀ n c, env.cells.lookup n = some c → ¬ muts μ c
  at_ : ∃ (m cm : Str → Option Value), h.Ns env.locals m ∧ (∀ n c, env.cells.lookup n = some c → h.IsCell c (cm n)) ∧
    ∀ x mv, σ.lookup x = some mv → ∃ v, Is h mv v ∧ ((sc.names.lookup x = some .local ∧ m x = some v) ∨
      (sc.names.lookup x = some .cell ∧ (env.cells.lookup x).isSome = true ∧ cm x = some v))

theorem FrR.keep {P : Params} {base : Heap} {sc : Scope} {env : Env} {σ : Sg} {μ μ' : Mu} {h h' : Heap} (H : HR P base μ h) (F : FrR sc env σ μ h) (x : Ext μ h μ' h') : FrR sc env σ μ' h' := by
  obtain ⟨m, cm, hn, hc, hv⟩ := F.at_
  obtain ⟨o, es, ep, ho, hrest⟩ := hn
  refine ⟨fun q => ?_, fun n c hm q => ?_, m, cm, ⟨o, es, ep, x.keep _ _ ho F.own, hrest⟩, fun n c e => ?_, fun y mv e => ?_⟩
  · rcases x.grow _ q with q | q
    · exact F.own q
    · rw [ho] at q; cases q
  · rcases x.grow _ q with q | q
    · exact F.ownc n c hm q
    · obtain ⟨oc, hoc, _⟩ := hc n c hm
      rw [hoc] at q; cases q
  · obtain ⟨oc, hoc, hd⟩ := hc n c e
    exact ⟨oc, x.keep _ _ hoc (F.ownc n c e), hd⟩
  · obtain ⟨v, hi, r⟩ := hv y mv e
    exact ⟨v, hi.keep (H.tupKeep x), r⟩

noncomputable def Sub (σ₁ σ₂ : Sg) : Prop := ∀ p ∈ σ₁, σ₂.lookup p.1 = some p.2
theorem FrR.sub {sc : Scope} {env : Env} {σ σ' : Sg} {μ : Mu} {h : Heap} (F : FrR sc env σ μ h) (q : Sub σ' σ) : FrR sc env σ' μ h := by
  obtain ⟨m, cm, hn, hc, hv⟩ := F.at_
  exact ⟨F.own, F.ownc, m, cm, hn, hc, fun x mv e => hv x mv (q (x, mv) (mem_of_lookup e))⟩

section
variable {w : World} {base : Heap} {prog : Program}

/-- a value, and what stands when it has come -/
inductive ERes (w : World) (base : Heap) (μ : Mu) (s : Shared) (post : MV → Mu → Prop) (v : Value) (s' : Shared) : Prop
  | mk (mv : MV) (μ' : Mu) : post mv μ' → Done w.params base μ s μ' s' → Is s'.heap mv v → ERes w base μ s post v s'

/-- a tree, run from s₁, that comes to a value; what stands then is told against μ, s -/
noncomputable def EvT (prog : Program) (w : World) (base : Heap) (A : Around) (t : Sem Value) (μ : Mu) (s s₁ : Shared) (post : MV → Mu → Prop) : Prop :=
  wpAny (model prog w) A t (ERes w base μ s post) (fun zz zz => False) s₁

noncomputable def Ev (prog : Program) (w : World) (base : Heap) (n : Nat) (sc : Scope) (e : Expr) (σ : Sg) (μ : Mu) (post : MV → Mu → Prop) : Prop :=
  ∀ A env s, Room n A → GEnv base sc env → HR w.params base μ s.heap → FrR sc env σ μ s.heap → EvT prog w base A (eval e env) μ s s post

theorem EvT.mono {A : Around} {t : Sem Value} {μ : Mu} {s s₁ : Shared} {post post' : MV → Mu → Prop} (x : EvT prog w base A t μ s s₁ post) (h : ∀ v μ', post v μ' → post' v μ') : EvT prog w base A t μ s s₁ post' :=
  wpAny_mono x (fun _ _ ⟨mv, μ', p, d, i⟩ => ⟨mv, μ', h _ _ p, d, i⟩) fun zz zz e => e
theorem Ev.mono {n : Nat} {sc : Scope} {e : Expr} {σ : Sg} {μ : Mu} {post post' : MV → Mu → Prop} (x : Ev prog w base n sc e σ μ post) (h : ∀ v μ', post v μ' → post' v μ') : Ev prog w base n sc e σ μ post' :=
  fun A env s r g H F => (x A env s r g H F).mono h

/-- go on from a tree -/
theorem EvT.bind {α : Type} {A : Around} {t : Sem Value} {μ : Mu} {s s₁ : Shared} {post : MV → Mu → Prop} {f : Value → Sem α} {Q : α → Shared → Prop} (x : EvT prog w base A t μ s s₁ post)
    (h : ∀ mv μ' v s', post mv μ' → Done w.params base μ s μ' s' → Is s'.heap mv v → wpAny (model prog w) A (f v) Q (fun zz zz => False) s') :
    wpAny (model prog w) A (t >>= f) Q (fun zz zz => False) s₁ :=
  wpAny_bind (wpAny_mono x (fun v s' ⟨mv, μ', p, d, i⟩ => h mv μ' v s' p d i) fun zz zz e => e)
theorem EvT.then_ {A : Around} {t : Sem Value} {μ : Mu} {s s₁ : Shared} {post : MV → Mu → Prop} {Q : Value → Shared → Prop} (x : EvT prog w base A t μ s s₁ post)
    (h : ∀ mv μ' v s', post mv μ' → Done w.params base μ s μ' s' → Is s'.heap mv v → Q v s') :
    wpAny (model prog w) A t Q (fun zz zz => False) s₁ :=
  wpAny_mono x (fun v s' ⟨mv, μ', p, d, i⟩ => h mv μ' v s' p d i) fun zz zz e => e
/-- a tree from a state that another has come to -/
theorem EvT.from {A : Around} {t : Sem Value} {μ μ₁ : Mu} {s s₁ s₂ : Shared} {post : MV → Mu → Prop} (d : Done w.params base μ s μ₁ s₁) (x : EvT prog w base A t μ₁ s₁ s₂ post) : EvT prog w base A t μ s s₂ post :=
  wpAny_mono x (fun _ _ ⟨mv, μ', p, d', i⟩ => ⟨mv, μ', p, d.trans d', i⟩) fun zz zz e => e
end
end Mine
namespace Mine
set_option tactic.hygienic false

section
variable {w : World} {base : Heap} {prog : Program} {n : Nat} {sc : Scope} {σ : Sg} {μ : Mu} {K : Frag}

/-- a unary, a binary operation on values -/
noncomputable def Op1 (prog : Program) (w : World) (base : Heap) (n : Nat) (f : Value → Sem Value) (a : MV) (μ : Mu) (post : MV → Mu → Prop) : Prop :=
  ∀ A s va, Room n A → HR w.params base μ s.heap → Is s.heap a va → EvT prog w base A (f va) μ s s post
noncomputable def Op2 (prog : Program) (w : World) (base : Heap) (n : Nat) (f : Value → Value → Sem Value) (a b : MV) (μ : Mu) (post : MV → Mu → Prop) : Prop :=
  ∀ A s va vb, Room n A → HR w.params base μ s.heap → Is s.heap a va → Is s.heap b vb → EvT prog w base A (f va vb) μ s s post
noncomputable def Truth (a : MV) (μ : Mu) (b : Bool) : Prop := match a with
  | .none => b = false
  | .bool x => b = x
  | .int i => b = !(i == 0)
  | .ref l => (∃ items, μ l = some (.list items) ∧ b = !items.isEmpty)
  | _ => False

theorem Ev.const_int {i k pos} {post} (h : post (.int i) μ) : Ev prog w base n sc (.Constant (.int i) k pos) σ μ post :=
  fun zz zz zz zz zz H zz => Constant_int_any ⟨_, _, h, Done.tok H, .int ..⟩
where
  Constant_int_any {M : Model} {A : Around} {E : Value → Shared → Prop} {s : Shared} {env : Env} {i k pos} {Q : Value → Shared → Prop} (h : Q (.int i s.toks) { s with toks := s.toks + 1 }) :
    wpAny M A (eval (.Constant (.int i) k pos) env) Q E s := fun zz zz zz => h
theorem Ev.const_str {x k pos} {post} (h : post (.str x) μ) : Ev prog w base n sc (.Constant (.str x) k pos) σ μ post :=
  fun zz zz zz zz zz H zz => Constant_str ⟨_, _, h, Done.tok H, .str ..⟩
theorem Ev.const_bool {b k pos} {post} (h : post (.bool b) μ) : Ev prog w base n sc (.Constant (.bool b) k pos) σ μ post :=
  fun zz zz zz zz zz H zz => wpAny_pure (a := Value.bool b) ⟨_, _, h, Done.refl H, .bool ..⟩
theorem Ev.const_none {k pos} {post} (h : post .none μ) : Ev prog w base n sc (.Constant .none k pos) σ μ post :=
  fun zz zz zz zz zz H zz => wpAny_pure (a := Value.none) ⟨_, _, h, Done.refl H, .none⟩

/-- a name that the frame holds -/
theorem Ev.name {x pos mv} {post} (hx : σ.lookup x = some mv) (h : post mv μ) (hd : (x == ("__debug__" : Str)) = false := by decide) : Ev prog w base n sc (.Name x pos) σ μ post := by
  intro A env s R G H F
  obtain ⟨m, cm, hn, hc, hv⟩ := F.at_
  obtain ⟨v, hi, q⟩ := hv x mv hx
  have hk := G.kind
  refine wpAny_Name ?_ hd
  rcases q with ⟨hl, e⟩ | ⟨hl, he, e⟩
  · exact wpAny_loadName_local hk (by unfold Env.kindOf; rw [G.sc_]; exact hl) hn e ⟨_, _, h, Done.refl H, hi⟩
  · obtain ⟨c, hce⟩ := Option.isSome_iff_exists.mp he
    exact wpAny_loadName_cell hk (by unfold Env.kindOf; rw [G.sc_]; exact hl) hce (e ▸ hc x c hce) ⟨_, _, h, Done.refl H, hi⟩
/-- a name of the top -/
theorem Ev.global {x pos v mv} {post} (W : WF w K base) (hl : sc.names.lookup x = some .globalImplicit) (e : nsIn K mainGlobals x = some (some v)) (hi : ∀ h, Is h mv v) (h : post mv μ)
    (hd : (x == ("__debug__" : Str)) = false := by decide) : Ev prog w base n sc (.Name x pos) σ μ post := by
  intro A env s R G H F
  obtain ⟨mg, hg⟩ := W.mg
  refine Name_function_global G.kind (by unfold Env.kindOf; rw [G.sc_]; exact hl) (loadGlobal_global (by rw [G.globals]; exact hg.keeps H.stays) (mg_of W.kin hg e) ⟨_, _, h, Done.refl H, hi _⟩) hd
theorem Ev.builtin {x pos v mv} {post} (W : WF w K base) (hl : sc.names.lookup x = some .globalImplicit) (e : nsIn K mainGlobals x = some none) (hv : bootBuiltins x = some v) (hi : ∀ h, Is h mv v) (h : post mv μ)
    (hne : x ≠ "__name__" := by decide) (hd : (x == ("__debug__" : Str)) = false := by decide) : Ev prog w base n sc (.Name x pos) σ μ post := by
  intro A env s R G H F
  obtain ⟨mg, hg⟩ := W.mg
  obtain ⟨mb, hb, hbb⟩ := W.bi
  refine Name_function_global G.kind (by unfold Env.kindOf; rw [G.sc_]; exact hl)
    (loadGlobal_builtin (by rw [G.globals]; exact hg.keeps H.stays) (mg_none_of W.kin hg e) (by rw [G.builtins]; exact hb.keeps H.stays) ((hbb x hne).trans hv) ⟨_, _, h, Done.refl H, hi _⟩) hd

/-- a second expression, behind a first: all that stands is carried on -/
theorem Ev.at {e : Expr} {μ₁ : Mu} {post} (x : Ev prog w base n sc e σ μ₁ post) {A env s s₁} (R : Room n A) (G : GEnv base sc env) (H : HR w.params base μ s.heap) (F : FrR sc env σ μ s.heap) (d : Done w.params base μ s μ₁ s₁) :
    EvT prog w base A (eval e env) μ₁ s₁ s₁ post := x A env s₁ R G d.hr (F.keep H d.ext)
theorem Done.is {P : Params} {μ' : Mu} {s s' : Shared} {a : MV} {v : Value} (H : HR P base μ s.heap) (d : Done P base μ s μ' s') (i : Is s.heap a v) : Is s'.heap a v := i.keep (H.tupKeep d.ext)
theorem Done.isL {P : Params} {μ' : Mu} {s s' : Shared} {a : List MV} {v : List Value} (H : HR P base μ s.heap) (d : Done P base μ s μ' s') (i : IsL s.heap a v) : IsL s'.heap a v := i.keep (H.tupKeep d.ext)

theorem Ev.binop {l op r pos} {post} (h : Ev prog w base n sc l σ μ (fun a μ₁ => Ev prog w base n sc r σ μ₁ (fun b μ₂ => Op2 prog w base n (binaryOp op) a b μ₂ post))) :
    Ev prog w base n sc (.BinOp l op r pos) σ μ post := by
  intro A env s R G H F
  refine wpAny_BinOp ((h A env s R G H F).then_ fun a μ₁ va s₁ h₁ d₁ i₁ => (h₁.at R G H F d₁).then_ fun b μ₂ vb s₂ h₂ d₂ i₂ => ?_)
  exact EvT.from (d₁.trans d₂) (h₂ A s₂ va vb R d₂.hr (d₂.is d₁.hr i₁) i₂)
theorem Ev.unop {op x pos} {post} (h : Ev prog w base n sc x σ μ (fun a μ₁ => Op1 prog w base n (unaryOp op) a μ₁ post)) : Ev prog w base n sc (.UnaryOp op x pos) σ μ post := by
  intro A env s R G H F
  refine wpAny_UnaryOp ((h A env s R G H F).then_ fun a μ₁ va s₁ h₁ d₁ i₁ => ?_)
  exact EvT.from d₁ (h₁ A s₁ va R d₁.hr i₁)
theorem Ev.compare {l op r pos} {post} (h : Ev prog w base n sc l σ μ (fun a μ₁ => Ev prog w base n sc r σ μ₁ (fun b μ₂ => Op2 prog w base n (compareOp op) a b μ₂ post)))
    (hm : behindInMarks op r = false := by with_unfolding_all rfl) : Ev prog w base n sc (.Compare l [op] [r] pos) σ μ post := by
  intro A env s R G H F
  refine wpAny_Compare1 ((h A env s R G H F).then_ fun a μ₁ va s₁ h₁ d₁ i₁ => (h₁.at R G H F d₁).then_ fun b μ₂ vb s₂ h₂ d₂ i₂ => ?_) hm
  exact EvT.from (d₁.trans d₂) (h₂ A s₂ va vb R d₂.hr (d₂.is d₁.hr i₁) i₂)

inductive EsRes (w : World) (base : Heap) (μ : Mu) (s : Shared) (post : List MV → Mu → Prop) (vs : List Value) (s' : Shared) : Prop
  | mk (ms : List MV) (μ' : Mu) : post ms μ' → Done w.params base μ s μ' s' → IsL s'.heap ms vs → EsRes w base μ s post vs s'
inductive TRes (w : World) (base : Heap) (μ : Mu) (s : Shared) (post : Bool → Mu → Prop) (b : Bool) (s' : Shared) : Prop
  | mk (μ' : Mu) : post b μ' → Done w.params base μ s μ' s' → TRes w base μ s post b s'
/-- several expressions, in order -/
noncomputable def Evs (prog : Program) (w : World) (base : Heap) (n : Nat) (sc : Scope) (es : List Expr) (σ : Sg) (μ : Mu) (post : List MV → Mu → Prop) : Prop :=
  ∀ A env s pos, Room n A → GEnv base sc env → HR w.params base μ s.heap → FrR sc env σ μ s.heap →
    wpAny (model prog w) A (spliced (backTo pos (starEach es env))) (EsRes w base μ s post) (fun zz zz => False) s
theorem Evs.nil {post} (h : post [] μ) : Evs prog w base n sc [] σ μ post := fun zz zz zz zz zz zz H zz => spliced_nil ⟨_, _, h, .refl H, .nil⟩
theorem Evs.cons {e rest} {post} (h : Ev prog w base n sc e σ μ (fun a μ₁ => Evs prog w base n sc rest σ μ₁ (fun as μ₂ => post (a :: as) μ₂)))
    (hs : ∀ env, starEach (e :: rest) env = (false, eval e env) :: starEach rest env := by intro zz; rfl) : Evs prog w base n sc (e :: rest) σ μ post := by
  intro A env s pos R G H F
  rw [hs]
  refine spliced_cons ((h A env s R G H F).then_ fun a μ₁ va s₁ h₁ d₁ i₁ => ?_)
  refine wpAny_mono (h₁ A env s₁ pos R G d₁.hr (F.keep H d₁.ext)) (fun vs s₂ ⟨ms, μ₂, p, d₂, i₂⟩ => ⟨_, μ₂, p, d₁.trans d₂, .cons (d₂.is d₁.hr i₁) i₂⟩) fun zz zz x => x

theorem HR.push {P : Params} {h : Heap} {o : Obj} (H : HR P base μ h) : HR P base μ (h.push o) := by
  have k : ∀ b x, h.get? b = some x → (h.push o).get? b = some x := fun b x e => Heap.get?_push_of_some _ e
  refine ⟨fun b x e => k _ _ (H.stays b x e), fun a x e => ?_, H.fresh, H.apart⟩
  have z := H.objs a x e
  cases x with
  | list items => obtain ⟨vs, c, ho, il⟩ := z; exact ⟨vs, c, k _ _ ho, il.keep (tupKeep_of k)⟩
  | inst C d fs => obtain ⟨z, es, n, hd, r⟩ := z; exact ⟨k _ _ z, es, n, k _ _ hd, r.keep (tupKeep_of k)⟩
  | dict fs => obtain ⟨es, n, hd, r⟩ := z; exact ⟨es, n, k _ _ hd, r.keep (tupKeep_of k)⟩
theorem Ext.push {h : Heap} {o : Obj} : Ext μ h μ (h.push o) := ⟨fun zz zz e zz => Heap.get?_push_of_some _ e, fun zz m => .inl m, fun zz x e => ⟨x, Heap.get?_push_of_some _ e⟩⟩
theorem Done.push {P : Params} {s : Shared} {o : Obj} (H : HR P base μ s.heap) : Done P base μ s μ { s with heap := s.heap.push o } := ⟨H.push, .push, rfl, rfl⟩
theorem IsL.length {h : Heap} : ∀ {ms : List MV} {vs : List Value}, IsL h ms vs → vs.length = ms.length
  | _, _, .nil => rfl
  | _, _, .cons _ r => congrArg (· + 1) r.length

theorem Ev.tuple {es k pos} {post} (h : Evs prog w base n sc es σ μ (fun ms μ₁ => ms.length ≤ 1000 ∧ post (.tup ms) μ₁)) : Ev prog w base n sc (.Tuple es k pos) σ μ post := by
  intro A env s R G H F
  refine wpAny_Tuple (wpAny_mono (h A env s pos R G H F) (fun vs s₁ ⟨ms, μ₁, ⟨hl, p⟩, d, i⟩ => ⟨?_, .tup ms, μ₁, p, d.trans (.push d.hr), ?_⟩) fun zz zz x => x)
  · rw [i.length, sizeLine_eq]; lia
  · exact .tup ⟨_, Heap.get?_push_size _ rfl, rfl, 0, rfl⟩ (i.keep (tupKeep_of fun zz zz e => Heap.get?_push_of_some _ e))

theorem Mu.set_self {a : Addr} {o : MO} : (Mu.set μ a o) a = some o := by simp [Mu.set]
theorem Mu.set_ne {a b : Addr} {o : MO} (h : b ≠ a) : (Mu.set μ a o) b = μ b := by simp [Mu.set, h]
theorem muts_set_list {a b : Addr} {l : List MV} (m : muts (Mu.set μ a (.list l)) b) : muts μ b ∨ b = a := by
  obtain ⟨c, o, hc, q⟩ := m
  by_cases e : c = a
  · subst e
    rw [Mu.set_self] at hc; cases hc
    rcases q with q | ⟨_, _, q⟩
    · exact .inr q
    · cases q
  · rw [Mu.set_ne e] at hc; exact .inl ⟨c, o, hc, q⟩
theorem muts_set_dict {a b : Addr} {l : List (Str × MV)} (m : muts (Mu.set μ a (.dict l)) b) : muts μ b ∨ b = a := by
  obtain ⟨c, o, hc, q⟩ := m
  by_cases e : c = a
  · subst e
    rw [Mu.set_self] at hc; cases hc
    rcases q with q | ⟨_, _, q⟩
    · exact .inr q
    · cases q
  · rw [Mu.set_ne e] at hc; exact .inl ⟨c, o, hc, q⟩
/-- what is not there is not among the changing ones -/
theorem HR.dead {P : Params} {h : Heap} (H : HR P base μ h) {b : Addr} (e : h.get? b = none) : ¬ muts μ b := by
  rintro ⟨a, o, ha, rfl | ⟨c, fs, rfl⟩⟩
  · have z := H.objs _ _ ha
    cases o with
    | list l => obtain ⟨vs, c, ho, _⟩ := z; rw [e] at ho; cases ho
    | inst C d fs => have z1 := z.1; rw [e] at z1; cases z1
    | dict fs => obtain ⟨es, n, hd, _⟩ := z; rw [e] at hd; cases hd
  · obtain ⟨_, es, n, hd, _⟩ := H.objs _ _ ha; rw [e] at hd; cases hd
theorem HR.nomu {P : Params} {h : Heap} (H : HR P base μ h) {b : Addr} (e : h.get? b = none) : μ b = none := by
  cases q : μ b with
  | none => rfl
  | some o => exact absurd ⟨b, o, q, .inl rfl⟩ (H.dead e)
theorem size_none {h : Heap} : h.get? h.objs.size = none := by
  cases q : h.get? h.objs.size with
  | none => rfl
  | some o => exact absurd (Heap.lt_size q) (Nat.lt_irrefl _)
theorem HR.base_none {P : Params} {h : Heap} (H : HR P base μ h) {b : Addr} (e : h.get? b = none) : base.get? b = none := by
  cases q : base.get? b with
  | none => rfl
  | some o => rw [H.stays _ _ q] at e; cases e
theorem ListIs.keeps {h h' : Heap} {a : Addr} {l : List MV} (k : ∀ b o, h.get? b = some o → h'.get? b = some o) : ListIs h a l → ListIs h' a l := fun ⟨vs, c, ho, il⟩ => ⟨vs, c, k _ _ ho, il.keep (tupKeep_of k)⟩

/-- a list made anew -/
theorem HR.newList {P : Params} {h h' : Heap} {a : Addr} {l : List MV} (H : HR P base μ h) (e : h.get? a = none) (k : ∀ b o, h.get? b = some o → h'.get? b = some o) (hl : ListIs h' a l) :
    HR P base (μ.set a (.list l)) h' := by
  have nn := H.nomu e
  refine ⟨fun b x q => k _ _ (H.stays b x q), fun b x q => ?_, fun b m => ?_, fun b C d fs q => ?_⟩
  · by_cases hb : b = a
    · subst hb; rw [Mu.set_self] at q; cases q; exact hl
    · rw [Mu.set_ne hb] at q
      have z := H.objs b x q
      cases x with
      | list items => exact ListIs.keeps k z
      | inst C d fs => obtain ⟨z, es, n, hd, r⟩ := z; exact ⟨k _ _ z, es, n, k _ _ hd, r.keep (tupKeep_of k)⟩
      | dict fs => obtain ⟨es, n, hd, r⟩ := z; exact ⟨es, n, k _ _ hd, r.keep (tupKeep_of k)⟩
  · rcases muts_set_list m with m | rfl
    · exact H.fresh b m
    · exact H.base_none e
  · by_cases hb : b = a
    · subst hb; rw [Mu.set_self] at q; cases q
    · rw [Mu.set_ne hb] at q
      obtain ⟨q1, q2⟩ := H.apart b C d fs q
      refine ⟨?_, fun a' C' fs' z => ?_⟩
      · by_cases hd : d = a
        · subst hd
          obtain ⟨_, es, n, hd, _⟩ := H.objs _ _ q
          rw [e] at hd; cases hd
        · rw [Mu.set_ne hd]; exact q1
      · by_cases ha : a' = a
        · subst ha; rw [Mu.set_self] at z; cases z
        · rw [Mu.set_ne ha] at z; exact q2 _ _ _ z
theorem Ext.newList {h h' : Heap} {a : Addr} {l : List MV} (e : h.get? a = none) (k : ∀ b o, h.get? b = some o → h'.get? b = some o) : Ext μ h (μ.set a (.list l)) h' :=
  ⟨fun b o q zz => k b o q, fun b m => by
    rcases muts_set_list m with m | rfl
    · exact .inl m
    · exact .inr e, fun b o q => ⟨o, k b o q⟩⟩
theorem Done.newList {P : Params} {s : Shared} {h' : Heap} {t : Nat} {a : Addr} {l : List MV} (H : HR P base μ s.heap) (e : s.heap.get? a = Option.none) (k : ∀ b o, s.heap.get? b = some o → h'.get? b = some o) (hl : ListIs h' a l) :
    Done P base μ s (μ.set a (.list l)) { s with heap := h', toks := t } := ⟨H.newList e k hl, .newList e k, rfl, rfl⟩

theorem Ev.list {es pos} {post} (h : Evs prog w base n sc es σ μ (fun ms μ₁ => ms.length ≤ 1000 ∧ ∀ a, μ₁ a = .none → post (.ref a) (μ₁.set a (.list ms)))) : Ev prog w base n sc (.List es pos) σ μ post := by
  intro A env s R G H F
  refine wpAny_List (wpAny_mono (h A env s pos R G H F) (fun vs s₁ ⟨ms, μ₁, ⟨hl, p⟩, d, i⟩ => ⟨?_, .ref _, _, p s₁.heap.objs.size (d.hr.nomu size_none), d.trans (Done.newList (t := s₁.toks) d.hr size_none (fun zz zz e => Heap.get?_push_of_some _ e) ?_), .ref _⟩) fun zz zz x => x)
  · rw [i.length, sizeLine_eq]; lia
  · exact ⟨vs, 0, Heap.get?_push_size _ rfl, i.keep (tupKeep_of fun zz zz e => Heap.get?_push_of_some _ e)⟩

/-- a test -/
noncomputable def Tr (prog : Program) (w : World) (base : Heap) (n : Nat) (sc : Scope) (e : Expr) (σ : Sg) (μ : Mu) (post : Bool → Mu → Prop) : Prop :=
  ∀ A env s, Room n A → GEnv base sc env → HR w.params base μ s.heap → FrR sc env σ μ s.heap →
    wpAny (model prog w) A (isTrue e env (eval e env)) (TRes w base μ s post) (fun zz zz => False) s
theorem Tr.mono {e} {post post' : Bool → Mu → Prop} (x : Tr prog w base n sc e σ μ post) (h : ∀ v μ', post v μ' → post' v μ') : Tr prog w base n sc e σ μ post' :=
  fun A env s r g H F => wpAny_mono (x A env s r g H F) (fun _ _ ⟨μ', p, d⟩ => ⟨μ', h _ _ p, d⟩) fun zz zz e => e
/-- the truth of a value -/
noncomputable def TruthT (prog : Program) (w : World) (base : Heap) (n : Nat) (a : MV) (μ : Mu) (post : Bool → Mu → Prop) : Prop :=
  ∀ A s va, Room n A → HR w.params base μ s.heap → Is s.heap a va →
    wpAny (model prog w) A (truthy va) (TRes w base μ s post) (fun zz zz => False) s
theorem TruthT.bool {b : Bool} {post} (h : post b μ) : TruthT prog w base n (.bool b) μ post := by
  intro A s va R H i; cases i; exact wpAny_truthy_bool ⟨μ, h, .refl H⟩
theorem TruthT.none_ {post} (h : post false μ) : TruthT prog w base n .none μ post := by
  intro A s va R H i; cases i; exact truthy_none ⟨μ, h, .refl H⟩

theorem Tr.plain {e} {post} (h : Ev prog w base n sc e σ μ (fun a μ₁ => TruthT prog w base n a μ₁ post))
    (he : ∀ env, isTrue e env (eval e env) = (do let v ← eval e env; standAt e.pos; holding [v] (truthy v)) := by intro zz; rfl) : Tr prog w base n sc e σ μ post := by
  intro A env s R G H F
  refine isTrue_plain ((h A env s R G H F).then_ fun a μ₁ va s₁ h₁ d₁ i₁ => ?_) (he env)
  exact wpAny_mono (h₁ A s₁ va R d₁.hr i₁) (fun b s₂ ⟨μ₂, p, d₂⟩ => ⟨μ₂, p, d₁.trans d₂⟩) fun zz zz x => x
theorem Tr.compare {l op r pos} {post} (h : Ev prog w base n sc l σ μ (fun a μ₁ => Ev prog w base n sc r σ μ₁ (fun b μ₂ => Op2 prog w base n (compareOp op) a b μ₂ (fun c μ₃ => TruthT prog w base n c μ₃ post))))
    (hm : behindInMarks op r = false := by with_unfolding_all rfl) : Tr prog w base n sc (.Compare l [op] [r] pos) σ μ post := by
  intro A env s R G H F
  refine wpAny_isTrue_Compare1 ((h A env s R G H F).then_ fun a μ₁ va s₁ h₁ d₁ i₁ => (h₁.at R G H F d₁).then_ fun b μ₂ vb s₂ h₂ d₂ i₂ => ?_) hm
  refine (h₂ A s₂ va vb R d₂.hr (d₂.is d₁.hr i₁) i₂).then_ fun c μ₃ vc s₃ h₃ d₃ i₃ => ?_
  exact wpAny_mono (h₃ A s₃ vc R d₃.hr i₃) (fun b s₂ ⟨μ₂, p, d₄⟩ => ⟨μ₂, p, ((d₁.trans d₂).trans d₃).trans d₄⟩) fun zz zz x => x
theorem Tr.not {x pos} {post} (h : Tr prog w base n sc x σ μ (fun b μ₁ => post (!b) μ₁)) : Tr prog w base n sc (.UnaryOp .Not x pos) σ μ post :=
  fun A env s R G H F => isTrue_not (wpAny_mono (h A env s R G H F) (fun _ _ ⟨μ', p, d⟩ => ⟨μ', p, d⟩) fun zz zz e => e)
theorem Tr.at {e : Expr} {μ₁ : Mu} {post} (x : Tr prog w base n sc e σ μ₁ post) {A env s s₁} (R : Room n A) (G : GEnv base sc env) (H : HR w.params base μ s.heap) (F : FrR sc env σ μ s.heap) (d : Done w.params base μ s μ₁ s₁) :
    wpAny (model prog w) A (isTrue e env (eval e env)) (TRes w base μ s post) (fun zz zz => False) s₁ :=
  wpAny_mono (x A env s₁ R G d.hr (F.keep H d.ext)) (fun _ _ ⟨μ', p, d'⟩ => ⟨μ', p, d.trans d'⟩) fun zz zz e => e
/-- and, of a list of tests -/
theorem Tr.and2 {x y pos} {post} (h : Tr prog w base n sc x σ μ (fun b μ₁ => if b then Tr prog w base n sc y σ μ₁ post else post false μ₁)) : Tr prog w base n sc (.BoolOp .And [x, y] pos) σ μ post := by
  intro A env s R G H F
  refine isTrue_and (wpAny_mono (h A env s R G H F) (fun b s₁ ⟨μ₁, p, d⟩ => ?_) fun zz zz x => x)
  cases b with
  | false => exact ⟨μ₁, p, d⟩
  | true =>
    rw [if_pos rfl] at p ⊢
    refine isTrue_and (wpAny_mono (p.at R G H F d) (fun b s₂ ⟨μ₂, p₂, d₂⟩ => ?_) fun zz zz x => x)
    cases b with
    | false => exact ⟨μ₂, p₂, d₂⟩
    | true => rw [if_pos rfl]; exact isTrue_and_nil ⟨μ₂, p₂, d₂⟩
theorem Tr.or2 {x y pos} {post} (h : Tr prog w base n sc x σ μ (fun b μ₁ => if b then post true μ₁ else Tr prog w base n sc y σ μ₁ post)) : Tr prog w base n sc (.BoolOp .Or [x, y] pos) σ μ post := by
  intro A env s R G H F
  refine isTrue_or (wpAny_mono (h A env s R G H F) (fun b s₁ ⟨μ₁, p, d⟩ => ?_) fun zz zz x => x)
  cases b with
  | true => exact ⟨μ₁, p, d⟩
  | false =>
    simp only [Bool.false_eq_true, if_false] at p ⊢
    refine isTrue_or (wpAny_mono (p.at R G H F d) (fun b s₂ ⟨μ₂, p₂, d₂⟩ => ?_) fun zz zz x => x)
    cases b with
    | true => exact ⟨μ₂, p₂, d₂⟩
    | false => simp only [Bool.false_eq_true, if_false]; exact isTrue_or_nil ⟨μ₂, p₂, d₂⟩

theorem Ev.ifexp {t b o pos} {post} (h : Tr prog w base n sc t σ μ (fun c μ₁ => if c then Ev prog w base n sc b σ μ₁ post else Ev prog w base n sc o σ μ₁ post)) : Ev prog w base n sc (.IfExp t b o pos) σ μ post := by
  intro A env s R G H F
  refine wpAny_IfExp (wpAny_mono (h A env s R G H F) (fun c s₁ ⟨μ₁, p, d⟩ => ?_) fun zz zz x => x)
  cases c with
  | true => rw [if_pos rfl] at p ⊢; exact EvT.from d (p.at R G H F d)
  | false => simp only [Bool.false_eq_true, if_false] at p ⊢; exact EvT.from d (p.at R G H F d)
end
end Mine
namespace Mine
set_option tactic.hygienic false

inductive MF where
  | next | brk | cont | ret (v : MV)
inductive FlIs (h : Heap) : MF → Flow → Prop
  | next : FlIs h .next .next
  | brk : FlIs h .brk .brk
  | cont : FlIs h .cont .cont
  | ret {m v} : Is h m v → FlIs h (.ret m) (.ret v)

noncomputable def put (x : Str) (v : MV) : Sg → Sg
  | [] => [(x, v)]
  | (y, u) :: r => if x == y then (x, v) :: r else (y, u) :: put x v r
set_option tactic.hygienic true in
theorem lookup_put (x y : Str) (v : MV) : ∀ σ : Sg, (put x v σ).lookup y = if y = x then some v else σ.lookup y
  | [] => by
    unfold put
    rw [List.lookup_cons]
    by_cases h : y = x
    · subst h; simp
    · have : (y == x) = false := beq_eq_false_iff_ne.mpr h
      simp [this, h]
  | (z, u) :: r => by
    unfold put
    split
    · rename_i q
      have := beq_iff_eq.mp q; subst this
      rw [List.lookup_cons, List.lookup_cons]
      by_cases h : y = x
      · subst h; simp
      · have : (y == x) = false := beq_eq_false_iff_ne.mpr h
        simp [this, h]
    · rename_i q
      rw [List.lookup_cons, List.lookup_cons, lookup_put x y v r]
      by_cases h : y = z
      · subst h
        have : y ≠ x := fun e => q (by rw [e]; simp)
        simp [this]
      · have : (y == z) = false := beq_eq_false_iff_ne.mpr h
        rw [this]

structure ExtF (lo : Bool) (env : Env) (μ : Mu) (h : Heap) (μ' : Mu) (h' : Heap) : Prop where
  keep : ∀ b o, h.get? b = some o → ¬ muts μ b → b ≠ env.locals → (lo = true ∨ ∀ n, env.cells.lookup n ≠ some b) → h'.get? b = some o
  grow : ∀ b, muts μ' b → muts μ b ∨ h.get? b = none
  alive : ∀ b o, h.get? b = some o → ∃ o', h'.get? b = some o'
theorem Ext.toF {lo : Bool} {env : Env} {μ : Mu} {h : Heap} {μ' : Mu} {h' : Heap} (x : Ext μ h μ' h') : ExtF lo env μ h μ' h' := ⟨fun b o e n zz zz => x.keep b o e n, x.grow, x.alive⟩
theorem ExtF.trans {lo : Bool} {env : Env} {μ₁ μ₂ μ₃ : Mu} {h₁ h₂ h₃ : Heap} (x : ExtF lo env μ₁ h₁ μ₂ h₂) (y : ExtF lo env μ₂ h₂ μ₃ h₃) : ExtF lo env μ₁ h₁ μ₃ h₃ := by
  refine ⟨fun b o e n l c => ?_, fun b m => ?_, fun b o e => ?_⟩
  · refine y.keep b o (x.keep b o e n l c) (fun m => ?_) l c
    rcases x.grow b m with q | q
    · exact n q
    · rw [q] at e; cases e
  · rcases y.grow b m with q | q
    · exact x.grow b q
    · right
      cases e : h₁.get? b with
      | none => rfl
      | some o => obtain ⟨o', e'⟩ := x.alive b o e; rw [e'] at q; cases q
  · obtain ⟨o', e'⟩ := x.alive b o e
    exact y.alive b o' e'

structure DoneF (lo : Bool) (P : Params) (base : Heap) (env : Env) (μ : Mu) (s : Shared) (μ' : Mu) (s' : Shared) : Prop where
  hr : HR P base μ' s'.heap
  ext : ExtF lo env μ s.heap μ' s'.heap
  gens : s'.gens = s.gens
  os : s'.os = s.os
theorem Done.toF {lo : Bool} {P : Params} {base : Heap} {env : Env} {μ : Mu} {s : Shared} {μ' : Mu} {s' : Shared} (x : Done P base μ s μ' s') : DoneF lo P base env μ s μ' s' := ⟨x.hr, x.ext.toF, x.gens, x.os⟩
theorem DoneF.trans {lo : Bool} {P : Params} {base : Heap} {env : Env} {μ μ' μ'' : Mu} {s s' s'' : Shared} (x : DoneF lo P base env μ s μ' s') (y : DoneF lo P base env μ' s' μ'' s'') : DoneF lo P base env μ s μ'' s'' :=
  ⟨y.hr, x.ext.trans y.ext, y.gens.trans x.gens, y.os.trans x.os⟩

section
variable {w : World} {base : Heap} {prog : Program} {n : Nat} {sc : Scope} {σ : Sg} {μ : Mu} {K : Frag}

/-- what stands behind a statement -/
inductive After (w : World) (base : Heap) (sc : Scope) (env : Env) (μ : Mu) (s : Shared) (post : MF → Sg → Mu → Prop) (fl : Flow) (s' : Shared) : Prop
  | mk (mf : MF) (σ' : Sg) (μ' : Mu) : post mf σ' μ' → DoneF false w.params base env μ s μ' s' → FrR sc env σ' μ' s'.heap → FlIs s'.heap mf fl → After w base sc env μ s post fl s'

noncomputable def Ex (prog : Program) (w : World) (base : Heap) (n : Nat) (sc : Scope) (st : Stmt) (σ : Sg) (μ : Mu) (post : MF → Sg → Mu → Prop) : Prop :=
  ∀ A env s, Room n A → GEnv base sc env → HR w.params base μ s.heap → FrR sc env σ μ s.heap → wpAny (model prog w) A (exec st env) (After w base sc env μ s post) (fun zz zz => False) s
noncomputable def Exs (prog : Program) (w : World) (base : Heap) (n : Nat) (sc : Scope) (sts : List Stmt) (σ : Sg) (μ : Mu) (post : MF → Sg → Mu → Prop) : Prop :=
  ∀ A env s, Room n A → GEnv base sc env → HR w.params base μ s.heap → FrR sc env σ μ s.heap → wpAny (model prog w) A (execs sts env) (After w base sc env μ s post) (fun zz zz => False) s

theorem After.mono {env : Env} {s : Shared} {post post' : MF → Sg → Mu → Prop} (h : ∀ f σ μ, post f σ μ → post' f σ μ) {fl s'} (x : After w base sc env μ s post fl s') : After w base sc env μ s post' fl s' := by
  obtain ⟨mf, σ', μ', p, d, f, i⟩ := x; exact ⟨mf, σ', μ', h _ _ _ p, d, f, i⟩
theorem After.from {env : Env} {μ₁ : Mu} {s s₁ : Shared} {post : MF → Sg → Mu → Prop} (d : DoneF false w.params base env μ s μ₁ s₁) {fl s'} (x : After w base sc env μ₁ s₁ post fl s') : After w base sc env μ s post fl s' := by
  obtain ⟨mf, σ', μ', p, d', f, i⟩ := x; exact ⟨mf, σ', μ', p, d.trans d', f, i⟩
theorem Ex.mono {st} {post post' : MF → Sg → Mu → Prop} (x : Ex prog w base n sc st σ μ post) (h : ∀ f σ μ, post f σ μ → post' f σ μ) : Ex prog w base n sc st σ μ post' :=
  fun A env s r g H F => wpAny_mono (x A env s r g H F) (fun zz zz y => y.mono h) fun zz zz e => e
theorem Exs.mono {st} {post post' : MF → Sg → Mu → Prop} (x : Exs prog w base n sc st σ μ post) (h : ∀ f σ μ, post f σ μ → post' f σ μ) : Exs prog w base n sc st σ μ post' :=
  fun A env s r g H F => wpAny_mono (x A env s r g H F) (fun zz zz y => y.mono h) fun zz zz e => e
theorem Exs.sub {st σ'} {post : MF → Sg → Mu → Prop} (x : Exs prog w base n sc st σ' μ post) (h : Sub σ' σ) : Exs prog w base n sc st σ μ post := fun A env s r g H F => x A env s r g H (F.sub h)

theorem Exs.nil {post : MF → Sg → Mu → Prop} (h : post .next σ μ) : Exs prog w base n sc [] σ μ post :=
  fun zz zz zz zz zz H F => wpAny_execs_nil ⟨_, _, _, h, (Done.refl H).toF, F, .next⟩
noncomputable abbrev seqP (prog : Program) (w : World) (base : Heap) (n : Nat) (sc : Scope) (rest : List Stmt) (post : MF → Sg → Mu → Prop) : MF → Sg → Mu → Prop := fun f σ₁ μ₁ => match f with
  | .next => Exs prog w base n sc rest σ₁ μ₁ post
  | f => post f σ₁ μ₁
theorem Exs.cons {st rest} {post : MF → Sg → Mu → Prop} (h : Ex prog w base n sc st σ μ (seqP prog w base n sc rest post)) :
    Exs prog w base n sc (st :: rest) σ μ post := by
  intro A env s R G H F
  refine wpAny_execs_cons (wpAny_mono (h A env s R G H F) (fun fl s' ⟨mf, σ₁, μ₁, p, d, F₁, i⟩ => ?_) fun zz zz e => e)
  cases i with
  | next => exact wpAny_mono (p A env s' R G d.hr F₁) (fun zz zz y => y.from d) fun zz zz e => e
  | brk => exact ⟨_, _, _, p, d, F₁, .brk⟩
  | cont => exact ⟨_, _, _, p, d, F₁, .cont⟩
  | ret i => exact ⟨_, _, _, p, d, F₁, .ret i⟩

theorem tup_ne_dict {h : Heap} {a L : Addr} {items : Array Value} (t : IsTup h a items) {m} (F : h.Ns L m) : a ≠ L := by
  rintro rfl
  obtain ⟨o, ho, hc, k, hd⟩ := t
  obtain ⟨o', es, ep, ho', hd', _⟩ := F
  rw [ho] at ho'; cases ho'; rw [hd] at hd'; cases hd'
theorem tup_ne_cell {h : Heap} {a c : Addr} {items : Array Value} (t : IsTup h a items) {v} (F : h.IsCell c v) : a ≠ c := by
  rintro rfl
  obtain ⟨o, ho, hc, k, hd⟩ := t
  obtain ⟨o', ho', hd'⟩ := F
  rw [ho] at ho'; cases ho'; rw [hd] at hd'; cases hd'

/-- a change at an address that no fact of μ speaks of -/
theorem HR.away {P : Params} {h h' : Heap} {L : Addr} (H : HR P base μ h) (hs : Heap.SameBut L h h') (n : ¬ muts μ L) (hb : base.get? L = none) (tk : TupKeep h h') : HR P base μ h' := by
  have k : ∀ b x, b ≠ L → h.get? b = some x → h'.get? b = some x := fun b x q e => (hs.2 b q).trans e
  have nl : ∀ a x, μ a = some x → a ≠ L := fun a x e q => n ⟨a, x, e, .inl q.symm⟩
  have nd : ∀ a C d fs, μ a = some (.inst C d fs) → d ≠ L := fun a C d fs e q => n ⟨a, _, e, .inr ⟨C, fs, by rw [q]⟩⟩
  refine ⟨fun b x e => k b x (fun q => by subst q; rw [hb] at e; cases e) (H.stays b x e), fun a x e => ?_, H.fresh, H.apart⟩
  have z := H.objs a x e
  cases x with
  | list items => obtain ⟨vs, c, ho, il⟩ := z; exact ⟨vs, c, k _ _ (nl _ _ e) ho, il.keep tk⟩
  | inst C d fs => obtain ⟨z, es, n, hd, r⟩ := z; exact ⟨k _ _ (nl _ _ e) z, es, n, k _ _ (nd _ _ _ _ e) hd, r.keep tk⟩
  | dict fs => obtain ⟨es, n, hd, r⟩ := z; exact ⟨es, n, k _ _ (nl _ _ e) hd, r.keep tk⟩

/-- a store into a name of the frame -/
theorem store {lo : Bool} {A env s x mv v} (G : GEnv base sc env) (H : HR w.params base μ s.heap) (F : FrR sc env σ μ s.heap) (i : Is s.heap mv v)
    (hx : sc.names.lookup x = some .local ∨ (lo = false ∧ sc.names.lookup x = some .cell ∧ (env.cells.lookup x).isSome = true)) {Q : Unit → Shared → Prop}
    (h : ∀ s', DoneF lo w.params base env μ s μ s' → FrR sc env (put x mv σ) μ s'.heap → Q () s') : wpAny (model prog w) A (storeName env x v) Q (fun zz zz => False) s := by
  obtain ⟨m, cm, hn, hc, hv⟩ := F.at_
  have hk := G.kind
  rcases hx with hl | ⟨rfl, hl, he⟩
  · refine wpAny_storeName_local (by unfold Env.kindOf; rw [G.sc_]; exact hl) hn (fun h' hn' hs => ?_) (by rw [hk]; rfl)
    have tk : TupKeep s.heap h' := fun a items t => by
      obtain ⟨o, ho, r⟩ := t
      exact ⟨o, (hs.2 a (tup_ne_dict ⟨o, ho, r⟩ hn)).trans ho, r⟩
    refine h _ ⟨H.away hs F.own G.low tk, ⟨fun b o e zz q zz => (hs.2 b q).trans e, fun b m => .inl m, fun b o e => ?_⟩, rfl, rfl⟩ ⟨F.own, F.ownc, _, cm, hn', fun n c e => ?_, fun y u e => ?_⟩
    · by_cases q : b = env.locals
      · subst q; obtain ⟨o', _, _, e', _⟩ := hn'; exact ⟨o', e'⟩
      · exact ⟨o, (hs.2 b q).trans e⟩
    · exact (hc n c e).sameBut hs (G.clow n c e).2
    · rw [lookup_put] at e
      by_cases q : y = x
      · subst q
        rw [if_pos rfl] at e; cases e
        exact ⟨v, i.keep tk, .inl ⟨hl, by simp⟩⟩
      · rw [if_neg q] at e
        obtain ⟨v', i', r⟩ := hv y u e
        refine ⟨v', i'.keep tk, r.imp (fun r => ⟨r.1, by simp [q, r.2]⟩) id⟩
  · obtain ⟨c, hce⟩ := Option.isSome_iff_exists.mp he
    refine wpAny_storeName_cell hk (by unfold Env.kindOf; rw [G.sc_]; exact hl) hce (hc x c hce) fun h' hc' hs => ?_
    have tk : TupKeep s.heap h' := fun a items t => by
      obtain ⟨o, ho, r⟩ := t
      exact ⟨o, (hs.2 a (tup_ne_cell ⟨o, ho, r⟩ (hc x c hce))).trans ho, r⟩
    have hcl := G.clow x c hce
    refine h _ ⟨H.away hs (F.ownc x c hce) hcl.1 tk, ⟨fun b o e zz zz q => (hs.2 b (fun z => (q.resolve_left (by simp)) x (z ▸ hce))).trans e, fun b m => .inl m, fun b o e => ?_⟩, rfl, rfl⟩
      ⟨F.own, F.ownc, m, fun y => if y = x then some v else cm y, hn.sameBut hs (Ne.symm hcl.2), fun n c' e => ?_, fun y u e => ?_⟩
    · by_cases q : b = c
      · subst q; obtain ⟨o', e', _⟩ := hc'; exact ⟨o', e'⟩
      · exact ⟨o, (hs.2 b q).trans e⟩
    · by_cases q : n = x
      · subst q
        rw [hce] at e; cases e
        simpa using hc'
      · have : c' ≠ c := fun z => q (name_of_addr G.apart (mem_of_lookup e) (z ▸ mem_of_lookup hce))
        simpa [q] using (hc n c' e).sameBut hs this
    · rw [lookup_put] at e
      by_cases q : y = x
      · subst q
        rw [if_pos rfl] at e; cases e
        exact ⟨v, i.keep tk, .inr ⟨hl, he, by simp⟩⟩
      · rw [if_neg q] at e
        obtain ⟨v', i', r⟩ := hv y u e
        refine ⟨v', i'.keep tk, r.imp id (fun r => ⟨r.1, r.2.1, by simp [q, r.2.2]⟩)⟩

/-- x is a name that the frame may store into -/
noncomputable def own (sc : Scope) (x : Str) : Bool := sc.names.lookup x == some .local || (!false && sc.names.lookup x == some .cell)
noncomputable def ownk (lo : Bool) (sc : Scope) (x : Str) : Bool := sc.names.lookup x == some .local || (!lo && sc.names.lookup x == some .cell)
theorem own_or {lo : Bool} {env x} (G : GEnv base sc env) (e : ownk lo sc x = true) : sc.names.lookup x = some .local ∨ (lo = false ∧ sc.names.lookup x = some .cell ∧ (env.cells.lookup x).isSome = true) := by
  unfold ownk at e
  rcases Bool.or_eq_true_iff.mp e with q | q
  · exact .inl (beq_iff_eq.mp q)
  · obtain ⟨q0, q⟩ := Bool.and_eq_true_iff.mp q
    exact .inr ⟨by simpa using q0, beq_iff_eq.mp q, G.cs x (by rw [G.sc_]; exact beq_iff_eq.mp q)⟩

theorem Ex.assign_name {x p value pos} {post : MF → Sg → Mu → Prop} (hx : own sc x = true) (h : Ev prog w base n sc value σ μ (fun v μ₁ => post .next (put x v σ) μ₁))
    (hs : ∀ env, swapsWith value (some (.Name x p)) pos.line env = pure false := by intro zz; rfl) : Ex prog w base n sc (.Assign [.Name x p] value pos) σ μ post := by
  intro A env s R G H F
  refine wpAny_Assign_Name ((h A env s R G H F).then_ fun mv μ₁ v s₁ p₁ d₁ i₁ => ?_) (hs env)
  exact store G d₁.hr (F.keep H d₁.ext) i₁ (own_or (lo := false) G hx) fun s' d F' => ⟨_, _, _, p₁, d₁.toF.trans d, F', .next⟩
theorem Ex.augassign {x p op value pos mv} {post : MF → Sg → Mu → Prop} (hx : own sc x = true) (hv : σ.lookup x = some mv)
    (h : Ev prog w base n sc value σ μ (fun v μ₁ => Op2 prog w base n (inplaceOp op) mv v μ₁ (fun r μ₂ => post .next (put x r σ) μ₂))) : Ex prog w base n sc (.AugAssign (.Name x p) op value pos) σ μ post := by
  intro A env s R G H F
  have hl : ∀ (Q : Value → Shared → Prop), (∀ v, Is s.heap mv v → Q v s) → wpAny (model prog w) A (loadName env x) Q (fun zz zz => False) s := fun Q hQ => by
    obtain ⟨m, cm, hn, hc, hv'⟩ := F.at_
    obtain ⟨v, hi, q⟩ := hv' x mv hv
    have hk := G.kind
    rcases q with ⟨hl, e⟩ | ⟨hl, he, e⟩
    · exact wpAny_loadName_local hk (by unfold Env.kindOf; rw [G.sc_]; exact hl) hn e (hQ v hi)
    · obtain ⟨c, hce⟩ := Option.isSome_iff_exists.mp he
      exact wpAny_loadName_cell hk (by unfold Env.kindOf; rw [G.sc_]; exact hl) hce (e ▸ hc x c hce) (hQ v hi)
  refine wpAny_AugAssign_Name (hl _ fun old iold => ?_)
  refine (h A env s R G H F).then_ fun v μ₁ vv s₁ h₁ d₁ i₁ => ?_
  refine (h₁ A s₁ old vv R d₁.hr (d₁.is H iold) i₁).then_ fun r μ₂ vr s₂ p₂ d₂ i₂ => ?_
  have d := d₁.trans d₂
  exact store G d.hr (F.keep H d.ext) i₂ (own_or (lo := false) G hx) fun s' d' F' => ⟨_, _, _, p₂, d.toF.trans d', F', .next⟩
theorem Ex.return_some {e pos} {post : MF → Sg → Mu → Prop} (h : Ev prog w base n sc e σ μ (fun v μ₁ => post (.ret v) σ μ₁)) : Ex prog w base n sc (.Return (some e) pos) σ μ post := by
  intro A env s R G H F
  exact wpAny_Return_some ((h A env s R G H F).then_ fun mv μ₁ v s₁ p₁ d₁ i₁ => ⟨_, _, _, p₁, d₁.toF, F.keep H d₁.ext, .ret i₁⟩)
theorem Ex.break_ {pos} {post : MF → Sg → Mu → Prop} (h : post .brk σ μ) : Ex prog w base n sc (.Break pos) σ μ post :=
  fun zz zz zz zz zz H F => wpAny_Break ⟨_, _, _, h, (Done.refl H).toF, F, .brk⟩
theorem Exs.at {st} {μ₁ : Mu} {post} (x : Exs prog w base n sc st σ μ₁ post) {A env s s₁} (R : Room n A) (G : GEnv base sc env) (H : HR w.params base μ s.heap) (F : FrR sc env σ μ s.heap) (d : Done w.params base μ s μ₁ s₁) :
    wpAny (model prog w) A (execs st env) (After w base sc env μ s post) (fun zz zz => False) s₁ := wpAny_mono (x A env s₁ R G d.hr (F.keep H d.ext)) (fun zz zz y => y.from d.toF) fun zz zz e => e
theorem Ex.if_ {t b o pos} {post : MF → Sg → Mu → Prop} (h : Tr prog w base n sc t σ μ (fun c μ₁ => if c then Exs prog w base n sc b σ μ₁ post else Exs prog w base n sc o σ μ₁ post)) : Ex prog w base n sc (.If t b o pos) σ μ post := by
  intro A env s R G H F
  refine wpAny_If (wpAny_mono (h A env s R G H F) (fun c s₁ ⟨μ₁, p, d⟩ => ?_) fun zz zz x => x)
  cases c with
  | true => rw [if_pos rfl] at p ⊢; exact p.at R G H F d
  | false => simp only [Bool.false_eq_true, if_false] at p ⊢; exact p.at R G H F d
/-- an expression as a statement, whose value is None -/
theorem Ex.expr {e pos} {post : MF → Sg → Mu → Prop} (h : Ev prog w base n sc e σ μ (fun v μ₁ => v = .none ∧ post .next σ μ₁))
    (hs : ∀ env, swapsWith e none pos.line env = pure false := by intro zz; rfl) : Ex prog w base n sc (.Expr e pos) σ μ post := by
  intro A env s R G H F
  refine wpAny_Expr ((h A env s R G H F).then_ fun mv μ₁ v s₁ ⟨hv, p₁⟩ d₁ i₁ => ?_) ?_ (hs env)
  · subst hv; cases i₁
    exact ⟨_, _, _, p₁, d₁.toF, F.keep H d₁.ext, .next⟩
  · unfold interactive; rw [G.kind]; rfl

/-- the call of a def of the top, by its place -/
noncomputable def Fn (prog : Program) (w : World) (base : Heap) (n : Nat) (f : Value) (args : List MV) (kw : List (Str × MV)) (μ : Mu) (post : MV → Mu → Prop) : Prop :=
  ∀ A s vs kvs, Room n A → HR w.params base μ s.heap → IsL s.heap args vs → IsL s.heap (kw.map (·.2)) kvs →
    EvT prog w base A (call f vs ((kw.map (·.1)).zip kvs)) μ s s post
theorem Fn.mono {f args kw} {post post' : MV → Mu → Prop} (x : Fn prog w base n f args kw μ post) (h : ∀ v μ', post v μ' → post' v μ') : Fn prog w base n f args kw μ post' :=
  fun A s vs kvs r H i j => (x A s vs kvs r H i j).mono h
theorem Room.le {m : Nat} {A : Around} (R : Room n A) (h : m ≤ n) : Room m A := ⟨R.1, by have := R.2.1; lia, by have := R.2.2; lia⟩
theorem Fn.le {m : Nat} {f args kw} {post : MV → Mu → Prop} (x : Fn prog w base m f args kw μ post) (h : m ≤ n) : Fn prog w base n f args kw μ post :=
  fun A s vs kvs r H i j => x A s vs kvs (r.le h) H i j
end
end Mine
namespace Mine
set_option tactic.hygienic false

inductive BindIs (h : Heap) : Sg → List (Str × Value) → Prop
  | nil : BindIs h [] []
  | cons {x mv v σ b} : Is h mv v → BindIs h σ b → BindIs h ((x, mv) :: σ) ((x, v) :: b)

theorem bindL_not {k : Str → Option NameKind} : ∀ (b : List (Str × Value)) (m : Str → Option Value) (x : Str), x ∉ b.map (·.1) → bindL k b m x = m x
  | [], _, _, _ => rfl
  | (y, v) :: r, m, x, h => by
    have h1 : x ≠ y := fun e => h (by rw [e]; exact .head _)
    have h2 : x ∉ r.map (·.1) := fun e => h (.tail _ e)
    unfold bindL
    rw [bindL_not r _ x h2]
    split
    · simp [h1]
    · rfl
theorem bindC_not {k : Str → Option NameKind} : ∀ (b : List (Str × Value)) (m : Str → Option Value) (x : Str), x ∉ b.map (·.1) → bindC k b m x = m x
  | [], _, _, _ => rfl
  | (y, v) :: r, m, x, h => by
    have h1 : x ≠ y := fun e => h (by rw [e]; exact .head _)
    have h2 : x ∉ r.map (·.1) := fun e => h (.tail _ e)
    unfold bindC
    rw [bindC_not r _ x h2]
    split
    · rfl
    · simp [h1]
theorem BindIs.names {h : Heap} : ∀ {σ : Sg} {b : List (Str × Value)}, BindIs h σ b → b.map (·.1) = σ.map (·.1)
  | _, _, .nil => rfl
  | _, _, .cons _ r => by simp only [List.map_cons, r.names]
theorem BindIs.keep {h h' : Heap} (k : TupKeep h h') : ∀ {σ : Sg} {b : List (Str × Value)}, BindIs h σ b → BindIs h' σ b
  | _, _, .nil => .nil
  | _, _, .cons i r => .cons (i.keep k) (r.keep k)
theorem BindIs.look {h : Heap} {k : Str → Option NameKind} : ∀ {σ : Sg} {b : List (Str × Value)}, BindIs h σ b → (σ.map (·.1)).Nodup → (∀ y ∈ b, k y.1 = some .local ∨ k y.1 = some .cell) → ∀ (m cm : Str → Option Value) (x : Str) (mv : MV), σ.lookup x = some mv →
    ∃ v, Is h mv v ∧ ((k x = some .local ∧ bindL k b m x = some v) ∨ (k x = some .cell ∧ bindC k b cm x = some v))
  | _, _, .nil, _, _, _, _, _, _, e => by cases e
  | _, _, .cons (x := y) (mv := u) (v := v) (σ := σ) (b := b) i r, hn, hk, m, cm, x, mv, e => by
    rw [List.lookup_cons] at e
    obtain ⟨hn1, hn2⟩ := List.nodup_cons.mp hn
    by_cases q : x = y
    · subst q
      rw [show (x == x) = true from beq_self_eq_true x] at e
      cases e
      have nb : x ∉ b.map (·.1) := by rw [r.names]; exact hn1
      refine ⟨v, i, ?_⟩
      unfold bindL bindC
      rcases hk _ (.head _) with z | z
      · exact .inl ⟨z, by rw [bindL_not _ _ _ nb, if_pos z]; simp⟩
      · exact .inr ⟨z, by rw [bindC_not _ _ _ nb, if_neg (by rw [show k x = some .cell from z]; simp)]; simp⟩
    · rw [show (x == y) = false from beq_eq_false_iff_ne.mpr q] at e
      unfold bindL bindC
      exact r.look hn2 (fun y hy => hk y (.tail _ hy)) _ _ x mv e

section
variable {w : World} {base : Heap} {prog : Program} {n : Nat} {sc : Scope} {σ : Sg} {μ : Mu} {K : Frag}

theorem HR.keeps {P : Params} {h h' : Heap} (H : HR P base μ h) (k : ∀ b o, h.get? b = some o → h'.get? b = some o) : HR P base μ h' := by
  refine ⟨fun b x e => k _ _ (H.stays b x e), fun a x e => ?_, H.fresh, H.apart⟩
  have z := H.objs a x e
  cases x with
  | list items => exact ListIs.keeps k z
  | inst C d fs => obtain ⟨z, es, n, hd, r⟩ := z; exact ⟨k _ _ z, es, n, k _ _ hd, r.keep (tupKeep_of k)⟩
  | dict fs => obtain ⟨es, n, hd, r⟩ := z; exact ⟨es, n, k _ _ hd, r.keep (tupKeep_of k)⟩

/-- what of a function's record the rule asks -/
noncomputable def fnOk (K : Frag) (f : Addr) (fd : FuncData) (body : List Stmt) : Prop :=
  ∃ oc od osl, K.lookup f = some ⟨oc, od, .func fd, osl⟩ ∧ codeIn K fd.code fd.qualname = true ∧ fd.body = .stmts body ∧ fd.closure = [] ∧ fd.globals = mainGlobals ∧ fd.builtins = builtinsNs ∧
    fd.scope.isCoroutine = false ∧ fd.scope.isGenerator = false ∧ fd.scope.kind = ScopeKind.function

theorem cellsFrom_has : ∀ (names : List (Str × NameKind)) (n : Nat) (acc : List (Str × Addr)) (x : Str), ((names.lookup x = some .cell) ∨ (acc.lookup x).isSome = true) → ((cellsFrom n names acc).lookup x).isSome = true :=
  fun names n acc zz h => cellsFrom_some names n acc h

/-- a call, as the machine's own code -/
noncomputable def FnC (prog : Program) (w : World) (base : Heap) (n : Nat) (f : Value) (args : List MV) (kw : List (Str × MV)) (μ : Mu) (post : MV → Mu → Prop) : Prop :=
  ∀ A s vs kvs, Room n A → HR w.params base μ s.heap → IsL s.heap args vs → IsL s.heap (kw.map (·.2)) kvs →
    codeAny (model prog w) A (.call f ⟨vs, (kw.map (·.1)).zip kvs⟩) (fun r s' => match r with
      | .ok (.ret v) => ERes w base μ s post v s'
      | .ok _ => False
      | .error _ => False) s
theorem FnC.toFn {f : Value} {args : List MV} {kw : List (Str × MV)} {post : MV → Mu → Prop} (h : FnC prog w base n f args kw μ post) : Fn prog w base n f args kw μ post :=
  fun A s vs kvs R H i j => wpAny_call (h A s vs kvs R H i j)
theorem FnC.mono {f args kw} {post post' : MV → Mu → Prop} (x : FnC prog w base n f args kw μ post) (h : ∀ v μ', post v μ' → post' v μ') : FnC prog w base n f args kw μ post' :=
  fun A s vs kvs r H i j => codeAny_mono (x A s vs kvs r H i j) fun r s' z => by
    rcases r with e | (v | _ | _ | _) <;> first | exact z | (obtain ⟨mv, μ', p, d, q⟩ := z; exact ⟨mv, μ', h _ _ p, d, q⟩)
theorem FnC.le {m : Nat} {f args kw} {post : MV → Mu → Prop} (x : FnC prog w base m f args kw μ post) (h : m ≤ n) : FnC prog w base n f args kw μ post :=
  fun A s vs kvs r H i j => x A s vs kvs (r.le h) H i j

noncomputable abbrev fnP (post : MV → Mu → Prop) : MF → Sg → Mu → Prop := fun f zz μ' => match f with
  | .ret v => post v μ'
  | .next => post .none μ'
  | _ => False
theorem FnC.def_ {f : Addr} {fd : FuncData} {body : List Stmt} {args : List MV} {kw : List (Str × MV)} {σ₀ : Sg} {post : MV → Mu → Prop} (W : WF w K base) (ok : fnOk K f fd body)
    (hb : ∀ (s : Shared) vs kvs, HR w.params base μ s.heap → IsL s.heap args vs → IsL s.heap (kw.map (·.2)) kvs → ∃ binds, BindsTo s fd ⟨vs, (kw.map (·.1)).zip kvs⟩ binds ∧ BindIs s.heap σ₀ binds)
    (hn : (σ₀.map (·.1)).Nodup) (hk : (σ₀.all fun y => own fd.scope y.1) = true)
    (h : Exs prog w base n fd.scope body σ₀ μ (fnP post)) :
    FnC prog w base (n + 1) (.ref f) args kw μ post := by
  intro A s vs kvs R H i j
  obtain ⟨oc, od, osl, ho, hcd, hbody, hclo, hgl, hbi, hco, hgen, hkd⟩ := ok
  obtain ⟨binds, hbd, hbi'⟩ := hb s vs kvs H i j
  have X := W.kin.keeps H.stays
  refine codeAny_call_function (by have := R.2.1; show A.depth < 1000; lia) (X _ _ ho) rfl hco hgen hbody (codeRec_of X hcd) (hbd _ _ _ _ ?_)
  rw [hclo]
  have hkind : ∀ x ∈ binds, own fd.scope x.1 = true := fun x hx => by
    have : x.1 ∈ σ₀.map (·.1) := by rw [← hbi'.names]; exact List.mem_map_of_mem hx
    obtain ⟨y, hy, e⟩ := List.mem_map.mp this
    rw [← e]; exact List.all_eq_true.mp hk y hy
  have hcs : ∀ m, ∀ x, fd.scope.names.lookup x = some .cell → ((cellsFrom m fd.scope.names []).lookup x).isSome = true := fun m x e => cellsFrom_some _ _ _ (.inl e)
  refine wpAny_newFunctionEnv_cells hkd (fun x hx => ?_) fun env he s₁ x => ?_
  · have z := hkind x hx
    unfold own at z; simp only [Bool.not_false, Bool.true_and] at z
    rcases Bool.or_eq_true_iff.mp z with q | q
    · exact .inl (beq_iff_eq.mp q)
    · exact .inr ⟨beq_iff_eq.mp q, hcs _ _ (beq_iff_eq.mp q)⟩
  have he1 : env.locals = s.heap.objs.size := by rw [he]; rfl
  have he2 : env.cells = cellsFrom (s.heap.objs.size + 1) fd.scope.names [] := by rw [he]; rfl
  have he3 : env.scope = fd.scope := by rw [he]; rfl
  have he4 : env.globals = mainGlobals := by rw [he]; exact hgl
  have he5 : env.builtins = builtinsNs := by rw [he]; exact hbi
  clear he
  obtain ⟨⟨⟨h₁, tk, rfl⟩, hns, hkeep, hfresh⟩, hcell, hap, habove⟩ := x
  have H₁ : HR w.params base μ h₁ := H.keeps hkeep
  refine ⟨(W.lim.keeps H.stays).keeps hkeep, codeAny_func ?_⟩
  have noL : s.heap.get? env.locals = none := by rw [he1]; exact size_none
  have noC : ∀ n c, env.cells.lookup n = some c → s.heap.get? c = none := fun n c e => by
    cases q : s.heap.get? c with
    | none => rfl
    | some o => exact absurd (Nat.lt_of_lt_of_le (Heap.lt_size q) hfresh) (Nat.lt_asymm (habove n c (mem_of_lookup e)))
  have G : GEnv base fd.scope env := ⟨he3, by rw [he3]; exact hkd, he4, he5, H.base_none noL, hap, fun n c e =>
    ⟨H.base_none (noC n c e), Nat.ne_of_gt (habove n c (mem_of_lookup e))⟩, fun x e => by rw [he2]; rw [he3] at e; exact hcs _ x e⟩
  have F₁ : FrR fd.scope env σ₀ μ h₁ := by
    refine ⟨H.dead noL, fun n c e => H.dead (noC n c e), _, _, hns, hcell, fun x mv e => ?_⟩
    have kk : ∀ x, env.kindOf x = fd.scope.names.lookup x := fun x => by unfold Env.kindOf; rw [he3]
    obtain ⟨v, iv, q⟩ := (hbi'.keep (tupKeep_of hkeep)).look (k := env.kindOf) hn (fun y hy => by
      have z := hkind y hy
      rw [kk]
      unfold own at z; simp only [Bool.not_false, Bool.true_and] at z
      rcases Bool.or_eq_true_iff.mp z with q | q
      · exact .inl (beq_iff_eq.mp q)
      · exact .inr (beq_iff_eq.mp q)) (fun zz => none) (fun zz => none) x mv e
    rw [kk] at q
    exact ⟨v, iv, q.imp id fun q => ⟨q.1, by rw [he2]; exact hcs _ _ q.1, q.2⟩⟩
  have R₁ : Room n (A.deeper env) := ⟨R.1, by have := R.2.1; show A.depth + 1 + 5 * n ≤ 900; lia, by have := R.2.2; show A.units + 3 + 20 * n ≤ 9000; lia⟩
  refine wpAny_mono (h (A.deeper env) env _ R₁ G H₁ F₁) (fun fl s' ⟨mf, σ', μ', p, d, F', i'⟩ => ?_) fun zz zz e => e.elim
  have d' : Done w.params base μ s μ' s' := ⟨d.hr, ⟨fun b o e n => d.ext.keep b o (hkeep b o e) n (fun q => by rw [q, noL] at e; cases e) (.inr fun n q => by rw [noC n b q] at e; cases e),
    fun b m => by
      rcases d.ext.grow b m with q | q
      · exact .inl q
      · right
        cases e : s.heap.get? b with
        | none => rfl
        | some o => exact absurd ((hkeep b o e).symm.trans q) (by simp), fun b o e => d.ext.alive b o (hkeep b o e)⟩, d.gens, d.os⟩
  cases i' with
  | next => exact ⟨_, _, p, d', .none⟩
  | brk => exact p.elim
  | cont => exact p.elim
  | ret i' => exact ⟨_, _, p, d', i'⟩
end
end Mine
namespace Mine
set_option tactic.hygienic false

section
variable {M : Model} {A : Around} {E : Value → Shared → Prop} {s : Shared}
theorem evalArgs_any {f : Value} {trees : List (Bool × Sem Value)} {kws : List (Option Str × Sem Value)} {Q : Args → Shared → Prop} (hs : trees.any (·.1) = false) (hall : kws.all (·.1.isSome) = true)
    (h : wpAny M A (spliced trees) (fun vs s₁ => wpAny M A (evalAll (kws.map (·.2))) (fun ks s₂ => Q ⟨vs, (kws.filterMap (·.1)).zip ks⟩ s₂) E s₁) E s) : wpAny M A (evalArgs f true trees kws) Q E s := by
  cases trees with
  | nil =>
    unfold evalArgs
    show wpAny M A (spliced [] >>= _) Q E s
    refine wpAny_bind (wpAny_mono h (fun vs s₁ h₁ => ?_) fun zz zz x => x)
    refine wpAny_bind (wpAny_pure (wpAny_holding ?_))
    simp only [hall, if_true]
    refine wpAny_bind (wpAny_mono h₁ (fun ks s₂ h₂ => ?_) fun zz zz x => x)
    exact wpAny_bind (wpAny_pure (wpAny_pure h₂))
  | cons p rest =>
    obtain ⟨b, x⟩ := p
    cases b with
    | true => simp at hs
    | false => exact evalArgs_kw hall h
end

section
variable {w : World} {base : Heap} {prog : Program} {n : Nat} {sc : Scope} {σ : Sg} {μ : Mu} {K : Frag}

/-- no argument is starred -/
noncomputable def plainArgs (es : List Expr) : Prop := ∀ env pos, (backTo pos (starEach es env)).any (·.1) = false
theorem plainArgs_nil : plainArgs [] := fun zz zz => rfl

/-- keywords: their values, in order -/
noncomputable def Kws (prog : Program) (w : World) (base : Heap) (n : Nat) (sc : Scope) (ks : List Keyword) (σ : Sg) (μ : Mu) (post : List (Str × MV) → Mu → Prop) : Prop :=
  (∀ env pos, (backToKw pos (keywordEach ks env)).all (·.1.isSome) = true ∧ (backToKw pos (keywordEach ks env)).any (·.1.isNone) = false) ∧
  ∀ A env s pos, Room n A → GEnv base sc env → HR w.params base μ s.heap → FrR sc env σ μ s.heap →
    wpAny (model prog w) A (evalAll ((backToKw pos (keywordEach ks env)).map (·.2)))
      (fun vs s' => ∃ kw μ', post kw μ' ∧ (backToKw pos (keywordEach ks env)).filterMap (·.1) = kw.map (·.1) ∧ Done w.params base μ s μ' s' ∧ IsL s'.heap (kw.map (·.2)) vs) (fun zz zz => False) s
theorem Kws.nil {post} (h : post [] μ) : Kws prog w base n sc [] σ μ post :=
  ⟨fun zz zz => ⟨rfl, rfl⟩, fun zz zz zz zz zz zz H zz => wpAny_evalAll_nil ⟨[], μ, h, rfl, .refl H, .nil⟩⟩
theorem Kws.one {x e p} {post} (h : Ev prog w base n sc e σ μ (fun a μ₁ => post [(x, a)] μ₁)) : Kws prog w base n sc [⟨some x, e, p⟩] σ μ post :=
  ⟨fun zz zz => ⟨rfl, rfl⟩, fun A env s pos R G H F => by
    show wpAny _ _ (evalAll [do let v ← eval e env; standAt pos; pure v]) _ _ _
    refine wpAny_evalAll_cons ((h A env s R G H F).bind fun a μ₁ va s₁ h₁ d₁ i₁ => wpAny_bind (wpAny_standAt (wpAny_pure (wpAny_evalAll_nil ?_))))
    exact ⟨_, _, h₁, rfl, d₁, .cons i₁ .nil⟩⟩

/-- a call of what is known of the top: a function, a class -/
theorem callWith_any {A : Around} {env : Env} {s : Shared} {f : Value} {first : List Value} {fms : List MV} {args : List Expr} {ks : List Keyword} {pos : Pos} {post} (W : WF w K base) (hk : keepIn K f = true) (hp : plainArgs args)
    (R : Room n A) (G : GEnv base sc env) (H : HR w.params base μ s.heap) (F : FrR sc env σ μ s.heap) (i : IsL s.heap fms first)
    (h : Evs prog w base n sc args σ μ (fun as μ₁ => Kws prog w base n sc ks σ μ₁ (fun kw μ₂ => Fn prog w base n f (fms ++ as) kw μ₂ post)))
    (hkn : ∀ env pos, (backToKw pos (keywordEach ks env)).all (·.1.isSome) = true ∧ (backToKw pos (keywordEach ks env)).any (·.1.isNone) = false) :
    EvT prog w base A (callWith pos f first (backTo pos (starEach args env)) (backToKw pos (keywordEach ks env))) μ s s post := by
  refine callWith_of (P := fun h => K.In h) (by rw [hp env pos, (hkn env pos).2]; rfl) (keeps_K hk) (evalArgs_any (hp env pos) (hkn env pos).1 ?_)
  refine wpAny_mono (h A env s pos R G H F) (fun vs s₁ ⟨as, μ₁, p₁, d₁, i₁⟩ => ?_) fun zz zz x => x
  refine wpAny_mono (p₁.2 A env s₁ pos R G d₁.hr (F.keep H d₁.ext)) (fun kvs s₂ ⟨kw, μ₂, p₂, e₂, d₂, i₂⟩ => ⟨W.kin.keeps d₂.hr.stays, ?_⟩) fun zz zz x => x
  rw [e₂]
  have ia : ∀ {a b : List MV} {x y : List Value}, IsL s₂.heap a x → IsL s₂.heap b y → IsL s₂.heap (a ++ b) (x ++ y) := by
    intro a b x y ha hb
    induction a generalizing x with
    | nil => cases ha; exact hb
    | cons m a ih => cases ha with | cons u v => exact .cons u (ih v)
  exact EvT.from (d₁.trans d₂) (p₂ A s₂ _ _ R d₂.hr (ia ((d₁.trans d₂).isL H i) (d₂.isL d₁.hr i₁)) i₂)

theorem Ev.call_name {x p args ks pos f} {post} (W : WF w K base) (hl : sc.names.lookup x = some .globalImplicit) (e : nsIn K mainGlobals x = some (some f)) (hk : keepIn K f = true)
    (h : Evs prog w base n sc args σ μ (fun as μ₁ => Kws prog w base n sc ks σ μ₁ (fun kw μ₂ => Fn prog w base n f as kw μ₂ post)))
    (hp : plainArgs args := by intro zz zz; rfl)
    (hkn : ∀ env pos, (backToKw pos (keywordEach ks env)).all (·.1.isSome) = true ∧ (backToKw pos (keywordEach ks env)).any (·.1.isNone) = false := by intro _ _; exact ⟨rfl, rfl⟩)
    (hd : (x == ("__debug__" : Str)) = false := by decide) : Ev prog w base n sc (.Call (.Name x p) args ks pos) σ μ post := by
  intro A env s R G H F
  have z : Ev prog w base n sc (.Name x p) σ μ (fun a μ₁ => a = .raw f ∧ μ₁ = μ) := Ev.global W hl e (fun zz => .raw f) ⟨rfl, rfl⟩ hd
  refine wpAny_Call_Name_kw ((z A env s R G H F).then_ fun a μ₁ va s₁ ⟨e1, e2⟩ d₁ i₁ => ?_)
  subst e1 e2
  cases i₁
  exact EvT.from d₁ (callWith_any W hk hp (fms := []) R G d₁.hr (F.keep H d₁.ext) .nil h hkn)

theorem isStr_key {P : Params} {h : Heap} {f : Str × MV} {e : DictEntry} (E : EntIs P h f e) (x : Str) : e.key.isStr x = (f.1 == x) := by
  obtain ⟨t, q⟩ := E.key; rw [q]; rfl
theorem refKey_no {P : Params} {h : Heap} {f : Str × MV} {e : DictEntry} (E : EntIs P h f e) : e.refKey = false := by
  obtain ⟨t, q⟩ := E.key
  show (match e.key with | .ref _ => true | _ => false) = false
  rw [q]
theorem EntsIs.getL {P : Params} {h : Heap} : ∀ {fs : List (Str × MV)} {es : List DictEntry}, EntsIs P h fs es → ∀ x : Str, (∃ mv v, fs.lookup x = some mv ∧ Is h mv v ∧ getL x es = some (some v)) ∨ (fs.lookup x = none ∧ getL x es = some none)
  | _, _, .nil, x => .inr ⟨rfl, rfl⟩
  | _, _, .cons (f := f) (e := e) (fs := fs) (es := es) E r, x => by
    have hr : ∀ {fs : List (Str × MV)} {es : List DictEntry}, EntsIs P h fs es → es.any (·.refKey) = false := by
      intro fs es q
      induction q with
      | nil => rfl
      | cons E _ ih => rw [List.any_cons, refKey_no E, ih]; rfl
    unfold W.getL
    rw [List.find?_cons, isStr_key E, List.lookup_cons]
    by_cases q : f.1 = x
    · have q1 : (f.1 == x) = true := beq_iff_eq.mpr q
      have q2 : (x == f.1) = true := beq_iff_eq.mpr q.symm
      rw [q1, q2]
      exact .inl ⟨f.2, e.val, rfl, E.val, rfl⟩
    · have q1 : (f.1 == x) = false := beq_eq_false_iff_ne.mpr q
      have q2 : (x == f.1) = false := beq_eq_false_iff_ne.mpr fun z => q z.symm
      rw [q1, q2]
      rcases r.getL x with ⟨mv, v, a, b, c⟩ | ⟨a, c⟩
      · refine .inl ⟨mv, v, a, b, ?_⟩
        unfold W.getL at c
        revert c
        cases hh : List.find? (fun x_1 => x_1.key.isStr x) es with
        | some e' => intro c; exact c
        | none => intro c; dsimp only at c ⊢; rw [List.any_cons, refKey_no E, Bool.false_or]; exact c
      · refine .inr ⟨a, ?_⟩
        unfold W.getL at c
        revert c
        cases hh : List.find? (fun x_1 => x_1.key.isStr x) es with
        | some e' => intro c; exact c
        | none => intro c; dsimp only at c ⊢; rw [List.any_cons, refKey_no E, Bool.false_or]; exact c

theorem instAt {P : Params} {h : Heap} {x C d : Addr} {fs} (H : HR P base μ h) (hx : μ x = some (.inst C d fs)) : ∃ es n, InstAt h x (instObj C d) C (some (dictOf es n)) ∧ EntsIs P h fs es := by
  obtain ⟨a, es, n, b, c⟩ := H.objs _ _ hx
  exact ⟨es, n, ⟨a, rfl, rfl, b⟩, c⟩

/-- a method of an own class -/
noncomputable def methIn (K : Frag) (C : Addr) (name : Str) (f : Addr) : Bool := plainGet K C name && (findIn K (.ref C) name == some (some (.ref f))) && isFn K (.ref f) && keepIn K (.ref f)
noncomputable abbrev CallP (prog : Program) (w : World) (base : Heap) (n : Nat) (sc : Scope) (ks : List Keyword) (σ : Sg) (f : Value) (ov : MV) (post : MV → Mu → Prop) : List MV → Mu → Prop := fun as μ₂ =>
  Kws prog w base n sc ks σ μ₂ (fun kw μ₃ => Fn prog w base n f (ov :: as) kw μ₃ post)
inductive MethP (prog : Program) (w : World) (base : Heap) (n : Nat) (sc : Scope) (K : Frag) (name : Str) (args : List Expr) (ks : List Keyword) (σ : Sg) (post : MV → Mu → Prop) (ov : MV) (μ₁ : Mu) : Prop
  | mk (x C d : Addr) (fs : Sg) (f : Addr) : ov = .ref x → μ₁ x = some (.inst C d fs) → methIn K C name f = true → fs.lookup name = none → Evs prog w base n sc args σ μ₁ (CallP prog w base n sc ks σ (.ref f) ov post) → MethP prog w base n sc K name args ks σ post ov μ₁
theorem MethP.intro {x C d f : Addr} {fs : Sg} {name : Str} {args : List Expr} {ks : List Keyword} {post : MV → Mu → Prop} (hx : μ x = some (.inst C d fs)) (hm : methIn K C name f = true) (hf : fs.lookup name = none)
    (h : Evs prog w base n sc args σ μ (CallP prog w base n sc ks σ (.ref f) (.ref x) post)) : MethP prog w base n sc K name args ks σ post (.ref x) μ := ⟨x, C, d, fs, f, rfl, hx, hm, hf, h⟩
theorem Ev.meth {o name apos args ks pos} {post} (W : WF w K base)
    (h : Ev prog w base n sc o σ μ (MethP prog w base n sc K name args ks σ post))
    (hp : plainArgs args := by intro zz zz; rfl)
    (hkn : ∀ env pos, (backToKw pos (keywordEach ks env)).all (·.1.isSome) = true ∧ (backToKw pos (keywordEach ks env)).any (·.1.isNone) = false := by intro _ _; exact ⟨rfl, rfl⟩)
    (he : ∀ env, ∃ pl, eval (.Call (.Attribute o name apos) args ks pos) env = (do
      let ov ← eval o env
      standAt apos.atName
      let (f, first) ← holding [ov] (getMethod ov name pl)
      callWith pos f first (backTo pos (starEach args env)) (backToKw pos (keywordEach ks env))) := by intro _; exact ⟨_, rfl⟩) :
    Ev prog w base n sc (.Call (.Attribute o name apos) args ks pos) σ μ post := by
  intro A env s R G H F
  obtain ⟨pl, he⟩ := he env
  refine methodCall_KW ((h A env s R G H F).then_ fun ov μ₁ va s₁ ⟨x, C, d, fs, f, e, hx, hm, hf, h₁⟩ d₁ i₁ => ?_) he
  subst e; cases i₁
  unfold methIn at hm
  obtain ⟨hm, hkp⟩ := Bool.and_eq_true_iff.mp hm
  obtain ⟨hm, hfn⟩ := Bool.and_eq_true_iff.mp hm
  obtain ⟨hg, hfi⟩ := Bool.and_eq_true_iff.mp hm
  obtain ⟨es, k, I, E⟩ := instAt d₁.hr hx
  have hl : getL name es = some none := by
    rcases E.getL name with ⟨mv, v, a, _⟩ | ⟨_, c⟩
    · rw [hf] at a; cases a
    · exact c
  refine method_fn (W.kin.keeps d₁.hr.stays) I (plainGet_of hg).1 (plainGet_of hg).2 (beq_iff_eq.mp hfi) (beq_iff_eq.mp hfn) (by show (lookIn name (dictOf es k)).map _ = _; rw [lookIn_dict, hl]; rfl) ?_
  exact EvT.from d₁ (callWith_any W hkp hp (fms := [.ref x]) R G d₁.hr (F.keep H d₁.ext) (.cons (.ref x) .nil) h₁ hkn)

/-- a field of an instance, read -/
noncomputable def fieldIn (K : Frag) (C : Addr) (name : Str) : Bool := plainGet K C name && hasDictIn K C && (match findIn K (.ref C) name with | some a => noGet K a | none => false)
noncomputable def MV.plainv : MV → Bool
  | .raw _ => false
  | _ => true
inductive FieldP (K : Frag) (name : Str) (post : MV → Mu → Prop) (ov : MV) (μ₁ : Mu) : Prop
  | mk (x C d : Addr) (fs : Sg) (mv : MV) : ov = .ref x → μ₁ x = some (.inst C d fs) → fieldIn K C name = true → fs.lookup name = some mv → mv.plainv = true → post mv μ₁ → FieldP K name post ov μ₁
theorem FieldP.intro {x C d : Addr} {fs : Sg} {name : Str} {mv : MV} {post : MV → Mu → Prop} (hx : μ x = some (.inst C d fs)) (hm : fieldIn K C name = true) (hf : fs.lookup name = some mv) (hp : mv.plainv = true) (h : post mv μ) :
    FieldP K name post (.ref x) μ := ⟨x, C, d, fs, mv, rfl, hx, hm, hf, hp, h⟩
set_option tactic.hygienic true in
theorem Ev.field {o name pos} {post} (W : WF w K base)
    (h : Ev prog w base n sc o σ μ (FieldP K name post))
    (he : ∀ env, eval (.Attribute o name pos) env = (do
      let ov ← eval o env
      standAt pos.atName
      let r ← holding [ov] (getAttr ov name true)
      letTemporaryGo o ov r
      pure r) := by intro _; with_unfolding_all rfl) : Ev prog w base n sc (.Attribute o name pos) σ μ post := by
  intro A env s R G H F
  refine Attribute_any_ ((h A env s R G H F).then_ fun ov μ₁ va s₁ ⟨x, C, d, fs, mv, e, hx, hm, hf, hpl, h₁⟩ d₁ i₁ => ?_) (he env)
  subst e; cases i₁
  unfold fieldIn at hm
  obtain ⟨hm, hn⟩ := Bool.and_eq_true_iff.mp hm
  obtain ⟨hg, hh⟩ := Bool.and_eq_true_iff.mp hm
  obtain ⟨es, k, I, E⟩ := instAt d₁.hr hx
  rcases E.getL name with ⟨mv', v, a, b, c⟩ | ⟨a, _⟩
  · rw [hf] at a; cases a
    split at hn
    · rename_i at_ ha
      have hv : handedIn v = true := by cases b <;> first | rfl | cases hpl
      exact get_value (W.kin.keeps d₁.hr.stays) I (plainGet_of hg).1 (findObj_own hh ha hn (by rw [lookIn_dict]; exact c)) hv
        ⟨_, _, h₁, d₁.trans (.tok d₁.hr), b⟩
    · cases hn
  · rw [hf] at a; cases a
end
end Mine
namespace Mine
open PySem PySem.W PySem.Calls PyProof.Rows PySem.SeqAt
set_option tactic.hygienic false

section
variable {w : World} {base : Heap} {prog : Program} {n : Nat} {sc : Scope} {σ : Sg} {μ : Mu} {K : Frag} {post : MV → Mu → Prop}

theorem Op.add_int {a b : Int} (h : post (.int (a + b)) μ) : Op2 prog w base n (binaryOp .Add) (.int a) (.int b) μ post := by
  intro A s va vb R H i j; cases i; cases j
  unfold EvT
  with_reducible exact PyProof.Rows.add_int ⟨_, _, h, .tok H, .int ..⟩
theorem Op.iadd_int {a b : Int} (h : post (.int (a + b)) μ) : Op2 prog w base n (inplaceOp .Add) (.int a) (.int b) μ post := by
  intro A s va vb R H i j; cases i; cases j
  unfold EvT
  with_reducible exact PyProof.Rows.iadd_int ⟨_, _, h, .tok H, .int ..⟩
theorem Op.sub_int {a b : Int} (h : post (.int (a - b)) μ) : Op2 prog w base n (binaryOp .Sub) (.int a) (.int b) μ post := by
  intro A s va vb R H i j; cases i; cases j
  unfold EvT
  with_reducible exact PyProof.Rows.sub_int' ⟨_, _, h, .tok H, .int ..⟩
theorem Op.isub_int {a b : Int} (h : post (.int (a - b)) μ) : Op2 prog w base n (inplaceOp .Sub) (.int a) (.int b) μ post := by
  intro A s va vb R H i j; cases i; cases j
  unfold EvT
  with_reducible exact PyProof.Rows.isub_int ⟨_, _, h, .tok H, .int ..⟩
theorem Op.mul_int {a b : Int} (hb : -(2 ^ 64) < a ∧ a < 2 ^ 64) (h : post (.int (a * b)) μ) : Op2 prog w base n (binaryOp .Mult) (.int a) (.int b) μ post := by
  intro A s va vb R H i j; cases i; cases j
  unfold EvT
  with_reducible exact P.mul_int ⟨_, _, h, .tok H, .int ..⟩ (IntMulOk.of_left (intBits_le_64 hb.1 hb.2))
theorem Op.mod_int {a b : Int} (hb : b ≠ 0) (h : post (.int (a.fmod b)) μ) : Op2 prog w base n (binaryOp .Mod) (.int a) (.int b) μ post := by
  intro A s va vb R H i j; cases i; cases j
  unfold EvT
  with_reducible exact PyProof.Rows.mod_int' hb ⟨_, _, h, .tok H, .int ..⟩
theorem Op.div_int {a b : Int} (hb : b ≠ 0) (hs : b.natAbs < 1073741824) (h : post (.int (a.fdiv b)) μ) : Op2 prog w base n (binaryOp .FloorDiv) (.int a) (.int b) μ post := by
  intro A s va vb R H i j; cases i; cases j
  unfold EvT
  with_reducible exact PyProof.Rows.floordiv_int hb ⟨_, _, h, .tok H, .int ..⟩ (.inl (PyProof.noPylong_small hs))
theorem Op.pow_int {a k : Int} (hn : 0 ≤ k) (hn2 : k ≤ 1000000) (ha : a.natAbs < 2 ^ 64) (h : post (.int (a ^ k.toNat)) μ) : Op2 prog w base n (binaryOp .Pow) (.int a) (.int k) μ post := by
  intro A s va vb R H i j; cases i; cases j
  unfold EvT
  with_reducible exact PyProof.Rows.pow_int_small hn hn2 ha ⟨_, _, h, .tok H, .int ..⟩
theorem Op.neg_int {a : Int} (h : post (.int (-a)) μ) : Op1 prog w base n (unaryOp .USub) (.int a) μ post := by
  intro A s va R H i; cases i
  unfold EvT
  with_reducible exact PyProof.Rows.neg_int ⟨_, _, h, .tok H, .int ..⟩
theorem Op.add_str {x y : Str} (hz : x.length + y.length ≤ 100000) (h : post (.str (x ++ y)) μ) : Op2 prog w base n (binaryOp .Add) (.str x) (.str y) μ post := by
  intro A s va vb R H i j; cases i; cases j
  unfold EvT
  with_reducible exact PyProof.Rows.add_str (fun t' tk => ⟨_, _, h, .tok H, .str ..⟩) (by rw [sizeLine_eq]; lia)
theorem mulOk_small {x : Str} {k : Int} (hk : k ≤ 100000) (hk0 : -100000 ≤ k) (hx : x.length ≤ 1) : MulOk x k := by
  refine ⟨?_, fun h1 h2 => ?_, fun h1 h2 => ?_⟩
  · rw [decide_eq_false (by lia), decide_eq_false (by lia)]; rfl
  · have : (2 ^ 63 - 1 : Int) / k ≥ 1 := by
      refine Int.le_ediv_of_mul_le (by lia) ?_
      lia
    lia
  · unfold Builtin.Str.tooLong
    refine decide_eq_false ?_
    rw [sizeLine_eq]
    have : x.length * k.toNat ≤ 1 * k.toNat := Nat.mul_le_mul_right _ hx
    lia
theorem Op.mul_str {x : Str} {k : Int} (hk : k ≤ 100000) (hk0 : -100000 ≤ k) (hx : x.length ≤ 1) (h : post (.str (Txt.mul x k)) μ) : Op2 prog w base n (binaryOp .Mult) (.str x) (.int k) μ post := by
  intro A s va vb R H i j; cases i; cases j
  unfold EvT
  with_reducible exact SB.mul (mulOk_small hk hk0 hx) fun t' k' => ⟨_, _, h, .tok H, .str ..⟩

theorem Op.eq_int {a b : Int} (h : post (.bool (a == b)) μ) : Op2 prog w base n (compareOp .Eq) (.int a) (.int b) μ post := by
  intro A s va vb R H i j; cases i; cases j
  unfold EvT
  with_reducible exact PyProof.Rows.eq_int ⟨_, _, h, .refl H, .bool ..⟩
theorem Op.ne_int {a b : Int} (h : post (.bool (a != b)) μ) : Op2 prog w base n (compareOp .NotEq) (.int a) (.int b) μ post := by
  intro A s va vb R H i j; cases i; cases j
  unfold EvT
  with_reducible exact PyProof.Rows.ne_int ⟨_, _, h, .refl H, .bool ..⟩
theorem Op.lt_int {a b : Int} (h : post (.bool (decide (a < b))) μ) : Op2 prog w base n (compareOp .Lt) (.int a) (.int b) μ post := by
  intro A s va vb R H i j; cases i; cases j
  unfold EvT
  with_reducible exact P.lt_int ⟨_, _, h, .refl H, .bool ..⟩
theorem Op.le_int {a b : Int} (h : post (.bool (decide (a ≤ b))) μ) : Op2 prog w base n (compareOp .LtE) (.int a) (.int b) μ post := by
  intro A s va vb R H i j; cases i; cases j
  unfold EvT
  with_reducible exact P.le_int ⟨_, _, h, .refl H, .bool ..⟩
theorem Op.gt_int {a b : Int} (h : post (.bool (decide (a > b))) μ) : Op2 prog w base n (compareOp .Gt) (.int a) (.int b) μ post := by
  intro A s va vb R H i j; cases i; cases j
  unfold EvT
  with_reducible exact P.gt_int ⟨_, _, h, .refl H, .bool ..⟩
theorem Op.ge_int {a b : Int} (h : post (.bool (decide (a ≥ b))) μ) : Op2 prog w base n (compareOp .GtE) (.int a) (.int b) μ post := by
  intro A s va vb R H i j; cases i; cases j
  unfold EvT
  with_reducible exact P.ge_int ⟨_, _, h, .refl H, .bool ..⟩
theorem Op.eq_str {a b : Str} (h : post (.bool (a == b)) μ) : Op2 prog w base n (compareOp .Eq) (.str a) (.str b) μ post := by
  intro A s va vb R H i j; cases i; cases j
  unfold EvT
  with_reducible exact PyProof.Rows.eq_str ⟨_, _, h, .refl H, .bool ..⟩
theorem Op.ne_str {a b : Str} (h : post (.bool (a != b)) μ) : Op2 prog w base n (compareOp .NotEq) (.str a) (.str b) μ post := by
  intro A s va vb R H i j; cases i; cases j
  unfold EvT
  with_reducible exact PyProof.Rows.ne_str ⟨_, _, h, .refl H, .bool ..⟩
theorem TruthT.int {a : Int} {post : Bool → Mu → Prop} (h : post (a != 0) μ) : TruthT prog w base n (.int a) μ post := by
  intro A s va R H i; cases i
  with_reducible exact P.truthy_int ⟨_, h, .refl H⟩

noncomputable def MV.isNone : MV → Bool
  | .none => true
  | _ => false
theorem is_none_of {h : Heap} {m : MV} {v : Value} (i : Is h m v) (hp : m.plainv = true) : (v == .none) = m.isNone := by cases i <;> first | rfl | cases hp
theorem Op.is_none {a : MV} (hp : a.plainv = true) (h : post (.bool a.isNone) μ) : Op2 prog w base n (compareOp .Is) a .none μ post := by
  intro A s va vb R H i j; cases j
  unfold EvT
  with_reducible exact is_none_gen (by rw [is_none_of i hp]; exact ⟨_, _, h, .refl H, .bool ..⟩)
theorem Op.isnot_none {a : MV} (hp : a.plainv = true) (h : post (.bool !a.isNone) μ) : Op2 prog w base n (compareOp .IsNot) a .none μ post := by
  intro A s va vb R H i j; cases j
  unfold EvT
  with_reducible exact isnot_none_gen (by rw [is_none_of i hp]; exact ⟨_, _, h, .refl H, .bool ..⟩)
theorem Op.is_bool {a b : Bool} (h : post (.bool (a == b)) μ) : Op2 prog w base n (compareOp .Is) (.bool a) (.bool b) μ post := by
  intro A s va vb R H i j; cases i; cases j
  unfold EvT
  with_reducible exact PyProof.Rows.is_bool ⟨_, _, h, .refl H, .bool ..⟩
theorem Op.isnot_bool {a b : Bool} (h : post (.bool (a != b)) μ) : Op2 prog w base n (compareOp .IsNot) (.bool a) (.bool b) μ post := by
  intro A s va vb R H i j; cases i; cases j
  unfold EvT
  with_reducible exact PyProof.Rows.isnot_bool ⟨_, _, h, .refl H, .bool ..⟩

/-! deep equality -/
mutual
inductive PD (μ : Mu) : MV → PyData → Prop
  | none : PD μ .none .none
  | bool (b) : PD μ (.bool b) (.bool b)
  | int (i) : PD μ (.int i) (.int i)
  | str (s) : PD μ (.str s) (.str s)
  | tup {l d} : PDL μ l d → PD μ (.tup l) (.tuple d)
  | list {a l d} : μ a = some (.list l) → PDL μ l d → PD μ (.ref a) (.list d)
inductive PDL (μ : Mu) : List MV → List PyData → Prop
  | nil : PDL μ [] []
  | cons {m d ms ds} : PD μ m d → PDL μ ms ds → PDL μ (m :: ms) (d :: ds)
end
mutual
theorem PD.reads {P : Params} {h : Heap} (H : HR P base μ h) : ∀ {m : MV} {d : PyData} {v : Value}, PD μ m d → Is h m v → ∃ as, Reads h v d as
  | _, _, _, .none, i => by cases i; exact ⟨_, .none⟩
  | _, _, _, .bool b, i => by cases i; exact ⟨_, .bool b⟩
  | _, _, _, .int b, i => by cases i; exact ⟨_, .int ..⟩
  | _, _, _, .str b, i => by cases i; exact ⟨_, .str ..⟩
  | _, _, _, .tup pl, i => by
    cases i with
    | tup ht il =>
      obtain ⟨o, ho, hc, k, hd⟩ := ht
      obtain ⟨as, r⟩ := PDL.reads H pl il
      exact ⟨_, .tuple ho hc hd (by simpa using r)⟩
  | _, _, _, .list hm pl, i => by
    cases i with
    | ref a =>
      obtain ⟨vs, c, ho, il⟩ := H.objs _ _ hm
      obtain ⟨as, r⟩ := PDL.reads H pl il
      exact ⟨_, .list ho rfl rfl (by simpa using r)⟩
theorem PDL.reads {P : Params} {h : Heap} (H : HR P base μ h) : ∀ {m : List MV} {d : List PyData} {v : List Value}, PDL μ m d → IsL h m v → ∃ as, ReadsAll h v d as
  | _, _, _, .nil, i => by cases i; exact ⟨_, .nil⟩
  | _, _, _, .cons p q, i => by
    cases i with
    | cons i j =>
      obtain ⟨as, r⟩ := PD.reads H p i
      obtain ⟨bs, t⟩ := PDL.reads H q j
      exact ⟨_, .cons r t⟩
end
theorem Op.eq_data {a b : MV} {da db : PyData} (pa : PD μ a da) (pb : PD μ b db) (sa : shaped da = true) (sb : shaped db = true) (h : post (.bool (PyData.eqv da db)) μ) :
    Op2 prog w base n (compareOp .Eq) a b μ post := by
  intro A s va vb R H i j
  obtain ⟨as, ra⟩ := pa.reads H i
  obtain ⟨bs, rb⟩ := pb.reads H j
  unfold EvT
  have hu : A.units + 64 < cLine := by have := R.2.2; show A.units + 64 < 9900; lia
  with_reducible exact eq_dataH ra rb sa sb hu ⟨_, _, h, .refl H, .bool ..⟩
theorem Op.ne_data {a b : MV} {da db : PyData} (pa : PD μ a da) (pb : PD μ b db) (sa : shaped da = true) (sb : shaped db = true) (h : post (.bool (!PyData.eqv da db)) μ) :
    Op2 prog w base n (compareOp .NotEq) a b μ post := by
  intro A s va vb R H i j
  obtain ⟨as, ra⟩ := pa.reads H i
  obtain ⟨bs, rb⟩ := pb.reads H j
  unfold EvT
  have hu : A.units + 64 < cLine := by have := R.2.2; show A.units + 64 < 9900; lia
  with_reducible exact ne_dataH ra rb sa sb hu ⟨_, _, h, .refl H, .bool ..⟩
theorem Op.in_data {a b : MV} {da : PyData} {db : List PyData} (pa : PD μ a da) (pb : PD μ b (.list db)) (sa : shaped da = true) (sb : shaped (.list db) = true) (h : post (.bool (db.any fun y => PyData.eqv y da)) μ) :
    Op2 prog w base n (compareOp .In) a b μ post := by
  intro A s va vb R H i j
  obtain ⟨as, ra⟩ := pa.reads H i
  obtain ⟨bs, rb⟩ := pb.reads H j
  unfold EvT
  have hu : A.units + 1 + min (PyData.depthAll db) da.depth < cLine := room_in_shaped sa (by have := R.2.2; show A.units + 65 < 9900; lia)
  have hc : PyData.canLayAll0 db = true := canLay_of_shaped sb
  with_reducible exact in_list_reads rb ra hc (canLay_of_shaped sa) hu ⟨_, _, h, .refl H, .bool ..⟩
theorem Op.notin_data {a b : MV} {da : PyData} {db : List PyData} (pa : PD μ a da) (pb : PD μ b (.list db)) (sa : shaped da = true) (sb : shaped (.list db) = true) (h : post (.bool (!db.any fun y => PyData.eqv y da)) μ) :
    Op2 prog w base n (compareOp .NotIn) a b μ post := by
  intro A s va vb R H i j
  obtain ⟨as, ra⟩ := pa.reads H i
  obtain ⟨bs, rb⟩ := pb.reads H j
  unfold EvT
  have hu : A.units + 1 + min (PyData.depthAll db) da.depth < cLine := room_in_shaped sa (by have := R.2.2; show A.units + 65 < 9900; lia)
  have hc : PyData.canLayAll0 db = true := canLay_of_shaped sb
  with_reducible exact notIn_list_reads rb ra hc (canLay_of_shaped sa) hu ⟨_, _, h, .refl H, .bool ..⟩
end
end Mine
namespace Mine
set_option tactic.hygienic false

section
variable {w : World} {base : Heap} {prog : Program} {n : Nat} {sc : Scope} {σ : Sg} {μ : Mu} {K : Frag}

inductive ARes (lo : Bool) (w : World) (base : Heap) (sc : Scope) (env : Env) (μ : Mu) (s : Shared) (post : Sg → Mu → Prop) (_u : Unit) (s' : Shared) : Prop
  | mk (σ' : Sg) (μ' : Mu) : post σ' μ' → DoneF lo w.params base env μ s μ' s' → FrR sc env σ' μ' s'.heap → ARes lo w base sc env μ s post _u s'
/-- a value given to a target -/
noncomputable def Asg (lo : Bool) (prog : Program) (w : World) (base : Heap) (n : Nat) (sc : Scope) (t : Expr) (x : MV) (σ : Sg) (μ : Mu) (post : Sg → Mu → Prop) : Prop :=
  ∀ A env s v, Room n A → GEnv base sc env → HR w.params base μ s.heap → FrR sc env σ μ s.heap → Is s.heap x v →
    wpAny (model prog w) A (assign t env v) (ARes lo w base sc env μ s post) (fun zz zz => False) s
theorem Asg.mono {lo : Bool} {t x} {post post' : Sg → Mu → Prop} (y : Asg lo prog w base n sc t x σ μ post) (h : ∀ σ μ, post σ μ → post' σ μ) : Asg lo prog w base n sc t x σ μ post' :=
  fun A env s v R G H F i => wpAny_mono (y A env s v R G H F i) (fun _ _ ⟨a, b, p, d, q⟩ => ⟨a, b, h _ _ p, d, q⟩) fun zz zz e => e

theorem Asg.name {lo : Bool} {x p v} {post : Sg → Mu → Prop} (hx : ownk lo sc x = true) (h : post (put x v σ) μ) : Asg lo prog w base n sc (.Name x p) v σ μ post := by
  intro A env s u R G H F i
  exact wpAny_assign_Name (store (lo := lo) G H F i (own_or G hx) fun s' d F' => ⟨_, _, h, d, F'⟩)

theorem DoneF.tupKeep {lo : Bool} {P : Params} {env : Env} {s : Shared} {μ' : Mu} {s' : Shared} (G : GEnv base sc env) (H : HR P base μ s.heap) (F : FrR sc env σ μ s.heap) (d : DoneF lo P base env μ s μ' s') : TupKeep s.heap s'.heap := by
  intro a items t
  obtain ⟨m, cm, hn, hc, _⟩ := F.at_
  have h1 := H.not_tup t
  have h2 := tup_ne_dict t hn
  have h3 : ∀ x, env.cells.lookup x ≠ some a := fun x e => tup_ne_cell t (hc x a e) rfl
  obtain ⟨o, ho, r⟩ := t
  exact ⟨o, d.ext.keep a o ho h1 h2 (.inr h3), r⟩

/-- several values given to several targets -/
noncomputable def Asgs (lo : Bool) (prog : Program) (w : World) (base : Heap) (n : Nat) (sc : Scope) (ts : List Expr) (xs : List MV) (σ : Sg) (μ : Mu) (post : Sg → Mu → Prop) : Prop :=
  ∀ A env s vs, Room n A → GEnv base sc env → HR w.params base μ s.heap → FrR sc env σ μ s.heap → IsL s.heap xs vs →
    wpAny (model prog w) A (assignInOrder ((assignEach ts env).map (·.2)) vs) (ARes lo w base sc env μ s post) (fun zz zz => False) s
theorem Asgs.nil {lo : Bool} {post : Sg → Mu → Prop} (h : post σ μ) : Asgs lo prog w base n sc [] [] σ μ post := by
  intro A env s vs R G H F i
  cases i
  exact wpAny_pure (a := ()) ⟨_, _, h, (Done.refl H).toF, F⟩
theorem Asgs.cons {lo : Bool} {t ts x xs} {post : Sg → Mu → Prop} (h : Asg lo prog w base n sc t x σ μ (fun σ₁ μ₁ => Asgs lo prog w base n sc ts xs σ₁ μ₁ post))
    (hs : ∀ env, assignEach (t :: ts) env = (false, assign t env) :: assignEach ts env := by intro zz; rfl) : Asgs lo prog w base n sc (t :: ts) (x :: xs) σ μ post := by
  intro A env s vs R G H F i
  cases i with
  | cons i j =>
    rw [hs]
    show wpAny _ _ (holding _ (assign t env _) >>= fun zz => assignInOrder _ _) _ _ _
    refine wpAny_bind (wpAny_holding (wpAny_mono (h A env s _ R G H F i) (fun _ s₁ ⟨σ₁, μ₁, p, d, F₁⟩ => ?_) fun zz zz e => e))
    exact wpAny_mono (p A env s₁ _ R G d.hr F₁ (j.keep (d.tupKeep G H F))) (fun _ s₂ ⟨σ₂, μ₂, p₂, d₂, F₂⟩ => ⟨σ₂, μ₂, p₂, d.trans d₂, F₂⟩) fun zz zz e => e

theorem extBut_keeps {h h' : Heap} (x : Heap.ExtBut h.objs.size h h') : ∀ b o, h.get? b = some o → h'.get? b = some o := fun b o e => x b o (Nat.ne_of_lt (Heap.lt_size e)) e
theorem Done.keeps {P : Params} {s : Shared} {h' : Heap} {t : Nat} (H : HR P base μ s.heap) (k : ∀ b o, s.heap.get? b = some o → h'.get? b = some o) : Done P base μ s μ { s with heap := h', toks := t } :=
  ⟨H.keeps k, ⟨fun b o e zz => k b o e, fun zz m => .inl m, fun b o e => ⟨o, k b o e⟩⟩, rfl, rfl⟩
theorem FrR.keeps {env : Env} {h h' : Heap} (F : FrR sc env σ μ h) (k : ∀ b o, h.get? b = some o → h'.get? b = some o) : FrR sc env σ μ h' := by
  obtain ⟨m, cm, hn, hc, hv⟩ := F.at_
  exact ⟨F.own, F.ownc, m, cm, hn.keeps k, fun n c e => (hc n c e).keeps k, fun x mv e => by obtain ⟨v, i, r⟩ := hv x mv e; exact ⟨v, i.keep (tupKeep_of k), r⟩⟩

theorem Asg.tuple {lo : Bool} {ts k p xs} {post : Sg → Mu → Prop} (h : Asgs lo prog w base n sc ts xs σ μ post) (hl : ∀ env, (assignEach ts env).length = xs.length := by intro zz; rfl)
    (hst : ∀ env, (assignEach ts env).findIdx? (·.1) = none := by intro zz; rfl) : Asg lo prog w base n sc (.Tuple ts k p) (.tup xs) σ μ post := by
  intro A env s u R G H F i
  cases i with
  | tup ht il =>
    refine assign_Tuple_tuple R.1 ht (by rw [hl, List.size_toArray, il.length]) (hst env) fun h' he => ?_
    have kk := extBut_keeps he
    have d : Done w.params base μ s μ { s with heap := h', toks := s.toks } := .keeps H kk
    exact wpAny_mono (h A env _ _ R G d.hr (F.keeps kk) (il.keep (tupKeep_of kk))) (fun _ s₂ ⟨σ₂, μ₂, p₂, d₂, F₂⟩ => ⟨σ₂, μ₂, p₂, d.toF.trans d₂, F₂⟩) fun zz zz e => e

/-- items, taken one by one, while cond holds of what may change -/
noncomputable def Loop (prog : Program) (w : World) (base : Heap) (n : Nat) (sc : Scope) (t : Expr) (body : List Stmt) (cond : Mu → Prop) (post : MF → Sg → Mu → Prop) : List MV → Sg → Mu → Prop
  | [], σ, μ => cond μ ∧ post .next σ μ
  | x :: r, σ, μ => cond μ ∧ Asg false prog w base n sc t x σ μ (fun σ₁ μ₁ => Exs prog w base n sc body σ₁ μ₁ (fun f σ₂ μ₂ => match f with
      | .next | .cont => Loop prog w base n sc t body cond post r σ₂ μ₂
      | .brk => post .next σ₂ μ₂
      | .ret v => post (.ret v) σ₂ μ₂))

noncomputable def ownedKinds : List String := ["enumerate", "zip", "dict_itemiterator", "dict_reverseitemiterator", "odict_iterator", "itertools.zip_longest", "itertools.pairwise"]
theorem letOwned_any {t : Expr} {it v : Value} {A : Around} {s : Shared} {Q : Unit → Shared → Prop} {r : Addr} {o : Obj} {c : String} (ho : s.heap.get? r = some o) (hc : o.cls = .type c)
    (hn : ownedKinds.contains c = false) (hi : it = .ref r) (h : Q () s) :
    wpAny (model prog w) A (letOwnedTupleGo t it v) Q (fun zz zz => False) s := by
  subst hi
  have key : wpAny (model prog w) A (do
    let (.ref r, .ref a) := ((Value.ref r), v) | return
    let o ← load r
    match o.cls, o.data with
    | .type n, .fields vs =>
      if ["enumerate", "zip", "dict_itemiterator", "dict_reverseitemiterator", "odict_iterator", "itertools.zip_longest", "itertools.pairwise"].contains n && vs[0]? == some (rawInt a) then
        rule "for.unpacks-the-owned-tuple"
        updateField r 0 .none
    | _, _ => pure () : Sem Unit) Q (fun zz zz => False) s := by
    cases v with
    | ref a =>
      refine wpAny_bind (wpAny_load ho ?_)
      obtain ⟨cl, d, dt, sl⟩ := o
      dsimp only at hc
      subst hc
      cases dt with
      | fields vs =>
        have hn' : ["enumerate", "zip", "dict_itemiterator", "dict_reverseitemiterator", "odict_iterator", "itertools.zip_longest", "itertools.pairwise"].contains c = false := hn
        dsimp only; rw [hn', Bool.false_and, if_neg Bool.false_ne_true]; exact wpAny_pure h
      | _ => exact wpAny_pure h
    | _ => exact wpAny_pure h
  cases t <;> first | exact wpAny_pure h | exact key

/-- an object of an iterator's make -/
noncomputable def IterObj (o : Obj) : Prop := ∃ c vs, o.cls = .type c ∧ o.data = .fields vs ∧ ownedKinds.contains c = false ∧ c ≠ "tuple" ∧ c ≠ "list"

/-- an iterator at `it`, over items, as long as cond holds -/
structure Itr (prog : Program) (w : World) (base : Heap) (it : Addr) (cond : Mu → Prop) (items : List MV) where
  St : Nat → Heap → Prop
  obj : ∀ i h, St i h → ∃ o, h.get? it = some o ∧ IterObj o
  frame : ∀ i h h', St i h → (∀ o, h.get? it = some o → h'.get? it = some o) → St i h'
  again : ∀ A s i (Q : Value → Shared → Prop), St i s.heap → Q (.ref it) s → wpAny (model prog w) A (pyIter (.ref it)) Q (fun zz zz => False) s
  next : ∀ A s i μ m (Q : Option Value → Shared → Prop), A.handled = none → HR w.params base μ s.heap → cond μ → St i s.heap → items[i]? = some m →
    (∀ v h' t, Is h' m v → (∀ b o, b ≠ it → s.heap.get? b = some o → h'.get? b = some o) → St (i + 1) h' → Q (some v) { s with heap := h', toks := t }) → wpAny (model prog w) A (pyNext (.ref it)) Q (fun zz zz => False) s
  stop : ∀ A s i μ (Q : Option Value → Shared → Prop), A.handled = none → HR w.params base μ s.heap → cond μ → St i s.heap → items[i]? = none →
    (∀ h' t, (∀ b o, b ≠ it → s.heap.get? b = some o → h'.get? b = some o) → Q none { s with heap := h', toks := t }) → wpAny (model prog w) A (pyNext (.ref it)) Q (fun zz zz => False) s

theorem IterObj.ne_tup {h : Heap} {it b : Addr} {o : Obj} (ho : h.get? it = some o) (x : IterObj o) {items} (t : IsTup h b items) : b ≠ it := by
  rintro rfl
  obtain ⟨c, vs, hc, _, _, h1, _⟩ := x
  obtain ⟨o', ho', hc', _⟩ := t
  rw [ho] at ho'; cases ho'; rw [hc] at hc'; cases hc'; exact h1 rfl
theorem tupKeep_iter {h h' : Heap} {it : Addr} {o : Obj} (ho : h.get? it = some o) (x : IterObj o) (hs : ∀ b o, b ≠ it → h.get? b = some o → h'.get? b = some o) : TupKeep h h' := fun a items t => by
  have := IterObj.ne_tup ho x t
  obtain ⟨o, ho, r⟩ := t
  exact ⟨o, hs a o this ho, r⟩

theorem IsL.at {h : Heap} : ∀ {ms : List MV} {vs : List Value} {m : MV} {i : Nat}, IsL h ms vs → ms[i]? = some m → ∃ v, vs[i]? = some v ∧ Is h m v
  | _, _, m, i, .nil, e => by cases i <;> cases e
  | _, _, m, 0, .cons i j, e => by cases e; exact ⟨_, rfl, i⟩
  | _, _, m, i + 1, .cons _ j, e => by
    obtain ⟨v, a, b⟩ := IsL.at j (i := i) (by simpa using e)
    exact ⟨v, by simpa using a, b⟩

/-- what a for, or a comprehension, runs over -/
noncomputable def Itb (prog : Program) (w : World) (base : Heap) (n : Nat) (sc : Scope) (e : Expr) (σ : Sg) (μ : Mu) (post : (Mu → Prop) → List MV → Mu → Prop) : Prop :=
  ∀ A env s, Room n A → GEnv base sc env → HR w.params base μ s.heap → FrR sc env σ μ s.heap →
    wpAny (model prog w) A (eval e env) (fun x s₁ => wpAny (model prog w) A (pyIter x) (fun itv s₂ => ∃ (it : Addr) (cond : Mu → Prop) (items : List MV) (μ₁ : Mu) (I : Itr prog w base it cond items),
      itv = .ref it ∧ post cond items μ₁ ∧ Done w.params base μ s μ₁ s₂ ∧ I.St 0 s₂.heap ∧ s.heap.get? it = none ∧ ¬ muts μ₁ it) (fun zz zz => False) s₁) (fun zz zz => False) s

noncomputable def listItr {it l : Addr} {items : List MV} : Itr prog w base it (fun μ => μ l = some (.list items)) items where
  St i h := h.IsListIter it l i
  obj := fun i h ⟨o, ho, hc, hd⟩ => ⟨o, ho, _, _, hc, hd, by decide, by decide, by decide⟩
  frame := fun i h h' ⟨o, ho, r⟩ k => ⟨o, k _ ho, r⟩
  again := fun A s i Q hst hQ => wpAny_pyIter_listiter hst hQ
  next := fun A s i μ m Q hh H hc hst hm hQ => by
    obtain ⟨vs, c, hlo, il⟩ := H.objs _ _ hc
    obtain ⟨v, hv, iv⟩ := il.at hm
    refine wpAny_pyNext_list_item hst (isList_of hlo) (x := v) (by rw [List.getElem?_toArray]; exact hv) fun h' hit' hsb => ?_
    have ks : ∀ b o, b ≠ it → s.heap.get? b = some o → h'.get? b = some o := fun b o q e => (hsb.2 b q).trans e
    obtain ⟨o, ho, hc, hd⟩ := id hst
    exact hQ v h' s.toks (iv.keep (tupKeep_iter ho ⟨_, _, hc, hd, by decide, by decide, by decide⟩ ks)) ks hit'
  stop := fun A s i μ Q hh H hc hst hm hQ => by
    obtain ⟨vs, c, hlo, il⟩ := H.objs _ _ hc
    have hx : vs.toArray[i]? = none := by
      rw [List.getElem?_toArray, List.getElem?_eq_none_iff, il.length]; exact List.getElem?_eq_none_iff.mp hm
    exact wpAny_pyNext_list_end hh hst (isList_of hlo) hx fun h' he => hQ h' s.toks fun b o q e => he b o q e

inductive ListP (post : (Mu → Prop) → List MV → Mu → Prop) (v : MV) (μ₁ : Mu) : Prop
  | mk (l : Addr) (items : List MV) : v = .ref l → μ₁ l = some (.list items) → post (fun μ => μ l = some (.list items)) items μ₁ → ListP post v μ₁
theorem ListP.intro {l : Addr} {items : List MV} {post : (Mu → Prop) → List MV → Mu → Prop} (hl : μ l = some (.list items)) (h : post (fun μ => μ l = some (.list items)) items μ) : ListP post (.ref l) μ := ⟨l, items, rfl, hl, h⟩
theorem Itb.list {e : Expr} {post : (Mu → Prop) → List MV → Mu → Prop} (h : Ev prog w base n sc e σ μ (ListP post)) :
    Itb prog w base n sc e σ μ post := by
  intro A env s R G H F
  refine (h A env s R G H F).then_ fun v μ₁ vv s₁ ⟨l, items, e, hl, p⟩ d₁ i₁ => ?_
  subst e; cases i₁
  obtain ⟨vs, c, hlo, il⟩ := d₁.hr.objs _ _ hl
  refine wpAny_pyIter_list (isList_of hlo) ?_
  have itn : s₁.heap.get? s₁.heap.objs.size = none := size_none
  refine ⟨_, _, _, μ₁, listItr, rfl, p, d₁.trans (.push d₁.hr), ⟨_, Heap.get?_push_size _ rfl, rfl, rfl⟩, ?_, d₁.hr.dead itn⟩
  cases q : s.heap.get? s₁.heap.objs.size with
  | none => rfl
  | some o => obtain ⟨o', e'⟩ := d₁.ext.alive _ _ q; rw [itn] at e'; cases e'
end
end Mine
namespace Mine
set_option tactic.hygienic false

section
variable {w : World} {base : Heap} {prog : Program} {n : Nat} {sc : Scope} {σ : Sg} {μ : Mu} {K : Frag}

theorem forLoop2 {A : Around} {s : Shared} {R : Result → Shared → Prop} {target it body orelse env} (I : Nat → Shared → Prop)
    (turn : ∀ n s, I n s → wpAny (model prog w) A (pyNext it) (fun r s₁ => match r with
      | none => wpAny (model prog w) A (execs orelse env) (fun f s₃ => R (.ok f) s₃) (fun zz zz => False) s₁
      | some v => wpAny (model prog w) A (letOwnedTupleGo target it v) (fun zz s₁' => wpAny (model prog w) A (assign target env v) (fun zz s₂ => wpAny (model prog w) A (execs body env) (fun f s₃ => match f with
          | .next | .cont => ∃ m, m < n ∧ I m s₃
          | .brk => R (.ok .next) s₃
          | .ret v => R (.ok (.ret v)) s₃) (fun zz zz => False) s₂) (fun zz zz => False) s₁') (fun zz zz => False) s₁) (fun zz zz => False) s)
    (n : Nat) (h : I n s) : codeAny (model prog w) A (.forLoop target it body orelse env) R s := by
  refine codeAny_loop' rfl I (fun n s hI => ?_) n h
  show wpAny _ _ ((forTurn target it body orelse env).onRaise (fun x => do noteFrame x env; theTreesLotGoes x)) _ _ s
  refine wpAny_noted ?_
  simp only [forTurn]
  refine wpAny_bind (wpAny_standAt (wpAny_bind (wpAny_onRaise (wpAny_mono (turn n s hI) (fun r s₁ h₁ => ?_) fun zz zz h' => h'.elim))))
  cases r with
  | none => exact wpAny_pure (.inr ⟨rfl, codeAny_block (wpAny_mono h₁ (fun zz zz x => x) fun zz zz e => e.elim)⟩)
  | some v =>
    refine wpAny_bind (wpAny_mono h₁ (fun zz s₂ h₂ => wpAny_bind (wpAny_mono h₂ (fun zz s₃ h₃ => wpAny_bind (wpAny_mono h₃ (fun f s₄ h₄ => ?_) fun zz zz h' => h'.elim)) fun zz zz h' => h'.elim)) fun zz zz h' => h'.elim)
    cases f with
    | next => exact wpAny_pure (.inl ⟨rfl, h₄⟩)
    | cont => exact wpAny_pure (.inl ⟨rfl, h₄⟩)
    | brk => exact wpAny_pure h₄
    | ret v => exact wpAny_pure h₄

/-- an object of the frame's own making (an iterator), that changes from turn to turn -/
structure Side (env : Env) (base : Heap) (μ : Mu) (s : Shared) (it : Addr) : Prop where
  new : s.heap.get? it = none
  nb : base.get? it = none
  nl : it ≠ env.locals
  nc : ∀ x, env.cells.lookup x ≠ some it

theorem FrR.away {env : Env} {h h' : Heap} {it : Addr} (F : FrR sc env σ μ h) (hs : ∀ b o, b ≠ it → h.get? b = some o → h'.get? b = some o) (nl : it ≠ env.locals) (nc : ∀ x, env.cells.lookup x ≠ some it) (tk : TupKeep h h') : FrR sc env σ μ h' := by
  obtain ⟨m, cm, hn, hc, hv⟩ := F.at_
  refine ⟨F.own, F.ownc, m, cm, hn.extBut hs (Ne.symm nl), fun n c e => ?_, fun x mv e => by obtain ⟨v, i, r⟩ := hv x mv e; exact ⟨v, i.keep tk, r⟩⟩
  obtain ⟨o, ho, hd⟩ := hc n c e
  exact ⟨o, hs c o (fun q => nc n (q ▸ e)) ho, hd⟩
theorem HR.away2 {P : Params} {h h' : Heap} {L : Addr} (H : HR P base μ h) (hs : ∀ b o, b ≠ L → h.get? b = some o → h'.get? b = some o) (n : ¬ muts μ L) (hb : base.get? L = none) (tk : TupKeep h h') : HR P base μ h' := by
  have nl : ∀ a x, μ a = some x → a ≠ L := fun a x e q => n ⟨a, x, e, .inl q.symm⟩
  have nd : ∀ a C d fs, μ a = some (.inst C d fs) → d ≠ L := fun a C d fs e q => n ⟨a, _, e, .inr ⟨C, fs, by rw [q]⟩⟩
  refine ⟨fun b x e => hs b x (fun q => by subst q; rw [hb] at e; cases e) (H.stays b x e), fun a x e => ?_, H.fresh, H.apart⟩
  have z := H.objs a x e
  cases x with
  | list items => obtain ⟨vs, c, ho, il⟩ := z; exact ⟨vs, c, hs _ _ (nl _ _ e) ho, il.keep tk⟩
  | inst C d fs => obtain ⟨z, es, n, hd, r⟩ := z; exact ⟨hs _ _ (nl _ _ e) z, es, n, hs _ _ (nd _ _ _ _ e) hd, r.keep tk⟩
  | dict fs => obtain ⟨es, n, hd, r⟩ := z; exact ⟨es, n, hs _ _ (nl _ _ e) hd, r.keep tk⟩
/-- the iterator steps on -/
theorem DoneF.touch {lo : Bool} {P : Params} {env : Env} {s s₁ : Shared} {μ' : Mu} {h' : Heap} {it : Addr} {t : Nat} (d : DoneF lo P base env μ s μ' s₁) (S : Side env base μ s it) (nm : ¬ muts μ' it)
    (hs : ∀ b o, b ≠ it → s₁.heap.get? b = some o → h'.get? b = some o) (tk : TupKeep s₁.heap h') : DoneF lo P base env μ s μ' { s₁ with heap := h', toks := t } := by
  refine ⟨d.hr.away2 hs nm S.nb tk, ⟨fun b o e n l c => hs b o (fun q => by rw [q, S.new] at e; cases e) (d.ext.keep b o e n l c), d.ext.grow, fun b o e => ?_⟩, d.gens, d.os⟩
  obtain ⟨o', e'⟩ := d.ext.alive b o e
  by_cases q : b = it
  · subst q; rw [S.new] at e; cases e
  · exact ⟨o', hs b o' q e'⟩

inductive ForI (items : List MV) (P : List MV → Sg → Mu → Prop) (Q : Mu → Shared → Prop) (R : Sg → Mu → Heap → Prop) (St : Nat → Heap → Prop) (it : Addr) (k : Nat) (s' : Shared) : Prop
  | mk (done rest : List MV) (σ' : Sg) (μ' : Mu) (ei : items = done ++ rest) (hk : rest.length = k) (lp : P rest σ' μ') (d : Q μ' s') (F : R σ' μ' s'.heap) (st : St done.length s'.heap) (nm : ¬ muts μ' it)

theorem Ex.for_ {t iter body pos} {post : MF → Sg → Mu → Prop} (hi : Itb prog w base n sc iter σ μ (fun cond items μ₁ => Loop prog w base n sc t body cond post items σ μ₁))
    (hs : ∀ env x, foldedSetIterable iter env x = pure x := by intro zz zz; rfl) : Ex prog w base n sc (.For t iter body [] pos) σ μ post := by
  intro A env s R G H F
  refine wpAny_For (wpAny_mono (hi A env s R G H F) (fun x s₁ h₁ => wpAny_mono h₁ (fun itv s₂ h₂ => ?_) fun zz zz e => e.elim) fun zz zz e => e.elim) (hs env)
  obtain ⟨it, cond, items, μ₁, J, rfl, loop, d₁, st₀, new, nm₀⟩ := h₂
  have F₁ := F.keep H d₁.ext
  have S : Side env base μ s it := by
    refine ⟨new, H.base_none new, fun q => ?_, fun x q => ?_⟩
    · obtain ⟨m, cm, ⟨_, _, _, ho, _⟩, _⟩ := F.at_; rw [← q, new] at ho; cases ho
    · obtain ⟨m, cm, _, hc, _⟩ := F.at_
      obtain ⟨_, ho, _⟩ := hc x _ q; rw [new] at ho; cases ho
  let I : Nat → Shared → Prop := ForI items (Loop prog w base n sc t body cond post) (DoneF false w.params base env μ s) (FrR sc env) J.St it
  refine forLoop2 I (fun k s' hI => ?_) items.length ⟨[], items, σ, μ₁, rfl, rfl, loop, d₁.toF, F₁, st₀, nm₀⟩
  obtain ⟨done, rest, σ', μ', ei, hk, lp, d, F', hst, nm⟩ := hI
  obtain ⟨oi, hoi, hio⟩ := J.obj _ _ hst
  cases rest with
  | nil =>
    obtain ⟨hc, p⟩ := lp
    refine J.stop A s' _ μ' _ R.1 d.hr hc hst (by rw [ei]; simp) fun h' tk ks => ?_
    have tk := tupKeep_iter hoi hio ks
    exact wpAny_execs_nil ⟨.next, _, _, p, d.touch S nm ks tk, F'.away ks S.nl S.nc tk, .next⟩
  | cons x r =>
    obtain ⟨hc, p⟩ := lp
    refine J.next A s' _ μ' x _ R.1 d.hr hc hst (by rw [ei]; simp) fun v h' tok iv ks st' => ?_
    have tk := tupKeep_iter hoi hio ks
    obtain ⟨oi', hoi', hio'⟩ := J.obj _ _ st'
    have d' : DoneF false w.params base env μ s μ' { s' with heap := h', toks := tok } := d.touch S nm ks tk
    have F'' : FrR sc env σ' μ' h' := F'.away ks S.nl S.nc tk
    obtain ⟨ci, vsi, hci, hdi, hni, _, _⟩ := id hio'
    refine letOwned_any hoi' hci hni rfl ?_
    refine wpAny_mono (p A env _ v R G d'.hr F'' iv) (fun _ s₂ ⟨σ₂, μ₂, p₂, d₂, F₂⟩ => ?_) fun zz zz e => e
    have keepIt : ∀ {μa sa μb sb}, DoneF false w.params base env μa sa μb sb → ¬ muts μa it → J.St (done.length + 1) sa.heap → J.St (done.length + 1) sb.heap ∧ ¬ muts μb it := by
      intro μa sa μb sb dd nn hh
      obtain ⟨o, ho, r⟩ := J.obj _ _ hh
      refine ⟨J.frame _ _ _ hh fun o' e => dd.ext.keep _ _ e nn S.nl (.inr S.nc), fun m => ?_⟩
      rcases dd.ext.grow _ m with q | q
      · exact nn q
      · rw [ho] at q; cases q
    obtain ⟨it₂, nm₂⟩ := keepIt d₂ nm st'
    refine wpAny_mono (p₂ A env s₂ R G d₂.hr F₂) (fun fl s₃ ⟨mf, σ₃, μ₃, p₃, d₃, F₃, i₃⟩ => ?_) fun zz zz e => e
    obtain ⟨it₃, nm₃⟩ := keepIt d₃ nm₂ it₂
    have dall := (d'.trans d₂).trans d₃
    have again : Loop prog w base n sc t body cond post r σ₃ μ₃ → ∃ m, m < k ∧ I m s₃ := fun q =>
      ⟨r.length, by rw [← hk]; exact Nat.lt_succ_self _, done ++ [x], r, σ₃, μ₃, by rw [ei]; simp, rfl, q, dall, F₃, by rw [List.length_append]; exact it₃, nm₃⟩
    cases i₃ with
    | next => exact again p₃
    | cont => exact again p₃
    | brk => exact ⟨_, _, _, p₃, dall, F₃, .next⟩
    | ret i => exact ⟨_, _, _, p₃, dall, F₃, .ret i⟩
end
end Mine
namespace Mine
set_option tactic.hygienic false

/-! the closure of a comprehension -/
noncomputable def closL (env : Env) : List (Str × NameKind) → List (Str × Addr) → List (Str × Addr)
  | [], cs => cs
  | (x, k) :: r, cs => closL env r (if k == .free then (x, (env.cells.lookup x).getD 0) :: cs else cs)

theorem closureFor_eq {scope : Scope} {env : Env} (h : ∀ x ∈ scope.names, x.2 = .free → (env.cells.lookup x.1).isSome = true) : closureFor scope env = pure (closL env scope.names []) := by
  have key : ∀ (l : List (Str × NameKind)) (cs : List (Str × Addr)), (∀ x ∈ l, x.2 = .free → (env.cells.lookup x.1).isSome = true) →
      (forIn l cs fun (x : Str × NameKind) (cs : List (Str × Addr)) => (match x with
        | (name, kind) => if (kind == NameKind.free) = true then do let __do_lift ← cellOf env name; pure (ForInStep.yield ((name, __do_lift) :: cs)) else pure (ForInStep.yield cs) : Sem _)) = (pure (closL env l cs) : Sem _) := by
    intro l
    induction l with
    | nil => intro cs _; rfl
    | cons x r ih =>
      intro cs hx
      obtain ⟨name, kind⟩ := x
      rw [List.forIn_cons]
      unfold closL
      by_cases hk : (kind == NameKind.free) = true
      · have hs := hx _ (.head _) (beq_iff_eq.mp hk)
        obtain ⟨a, ha⟩ := Option.isSome_iff_exists.mp hs
        have e : cellOf env name = pure a := by unfold cellOf; rw [ha]
        simp only [hk, if_true, e, ha, Option.getD_some]
        exact ih _ fun y hy => hx y (.tail _ hy)
      · simp only [hk]
        exact ih _ fun y hy => hx y (.tail _ hy)
  simp only [closureFor]
  have z := key scope.names [] h
  first
    | (rw [z]; rfl)
    | exact z
    | (simp only [z]; rfl)

theorem closL_spec {env : Env} (ap : env.cells.Pairwise fun x y => x.2 ≠ y.2) : ∀ (l : List (Str × NameKind)) (cs : List (Str × Addr)),
    (l.map (·.1)).Nodup → (∀ x ∈ l, ∀ p ∈ cs, p.1 ≠ x.1) → (∀ p ∈ cs, env.cells.lookup p.1 = some p.2) → cs.Pairwise (fun x y => x.2 ≠ y.2) →
    (∀ x ∈ l, x.2 = .free → (env.cells.lookup x.1).isSome = true) →
    (∀ p ∈ closL env l cs, env.cells.lookup p.1 = some p.2) ∧ (closL env l cs).Pairwise (fun x y => x.2 ≠ y.2) ∧
    ∀ x, ((x, NameKind.free) ∈ l ∨ (cs.lookup x).isSome = true) → ((closL env l cs).lookup x).isSome = true
  | [], cs, _, _, h1, h2, _ => ⟨h1, h2, fun x h => h.elim (fun h => by cases h) id⟩
  | (y, k) :: r, cs, hn, hd, h1, h2, hs => by
    obtain ⟨hn1, hn2⟩ := List.nodup_cons.mp hn
    unfold closL
    by_cases hk : (k == NameKind.free) = true
    · rw [if_pos hk]
      have hk' := beq_iff_eq.mp hk
      subst hk'
      obtain ⟨a, ha⟩ := Option.isSome_iff_exists.mp (hs _ (.head _) rfl)
      rw [ha, Option.getD_some]
      obtain ⟨c1, c2, c3⟩ := closL_spec ap r ((y, a) :: cs) hn2 (fun x hx p hp => by
          rcases List.mem_cons.mp hp with rfl | hp
          · exact fun e => hn1 (by show y ∈ _; rw [show y = x.1 from e]; exact List.mem_map_of_mem hx)
          · exact hd x (.tail _ hx) p hp) (fun p hp => by
          rcases List.mem_cons.mp hp with rfl | hp
          · exact ha
          · exact h1 p hp) (List.pairwise_cons.mpr ⟨fun p hp e => hd _ (.head _) p hp (by
            have q := h1 p hp
            exact name_of_addr ap (mem_of_lookup q) (by rw [← show a = p.2 from e]; exact mem_of_lookup ha)), h2⟩) fun x hx => hs x (.tail _ hx)
      refine ⟨c1, c2, fun x h => c3 x ?_⟩
      rcases h with h | h
      · rcases List.mem_cons.mp h with e | h
        · cases e; right; simp [List.lookup_cons]
        · exact .inl h
      · right
        rw [List.lookup_cons]
        split
        · rfl
        · exact h
    · rw [if_neg hk]
      obtain ⟨c1, c2, c3⟩ := closL_spec ap r cs hn2 (fun x hx => hd x (.tail _ hx)) h1 h2 fun x hx => hs x (.tail _ hx)
      refine ⟨c1, c2, fun x h => c3 x ?_⟩
      rcases h with h | h
      · rcases List.mem_cons.mp h with e | h
        · cases e; exact absurd rfl hk
        · exact .inl h
      · exact .inr h

noncomputable def relab (scope sc : Scope) : Scope := { scope with names := scope.names.map fun (n, k) => if (k == .free && sc.names.lookup n == some .cell) then (n, .cell) else (n, k) }
theorem relabel_eq {scope sc : Scope} {env : Env} (e : env.scope = sc) (k : env.scope.kind = .function) : relabel scope env = relab scope sc := by
  unfold relabel relab Env.kindOf
  rw [k, e]
  have : (ScopeKind.function == ScopeKind.function) = true := rfl
  simp only [this, Bool.and_true]

/-- a comprehension's scope, as the rules take it -/
noncomputable def compOk (scope sc : Scope) : Bool := scope.kind == .function && decide (scope.names.map (·.1)).Nodup && scope.names.all fun x => x.2 != .cell && (x.2 != .free || sc.names.lookup x.1 == some .cell)
noncomputable def capt (scope sc : Scope) (σ : Sg) : Sg := σ.filter fun p => (relab scope sc).names.lookup p.1 == some .cell

theorem lookup_of_mem_nodup {β : Type} : ∀ {l : List (Str × β)} {x : Str} {k : β}, (l.map (·.1)).Nodup → (x, k) ∈ l → l.lookup x = some k
  | (y, j) :: r, x, k, hn, h => by
    obtain ⟨hn1, hn2⟩ := List.nodup_cons.mp hn
    rw [List.lookup_cons]
    rcases List.mem_cons.mp h with e | h
    · cases e; simp
    · have : (x == y) = false := beq_eq_false_iff_ne.mpr fun e => hn1 (by show y ∈ _; rw [← e]; exact List.mem_map_of_mem (f := (·.1)) h)
      rw [this]; exact lookup_of_mem_nodup hn2 h

set_option tactic.hygienic true in
theorem relab_cell {scope sc : Scope} (hn : (scope.names.map (·.1)).Nodup) (hc : ∀ x ∈ scope.names, x.2 ≠ .cell) {x : Str} (h : (relab scope sc).names.lookup x = some .cell) :
    (x, NameKind.free) ∈ scope.names ∧ sc.names.lookup x = some .cell := by
  have m := mem_of_lookup h
  obtain ⟨⟨y, k⟩, hy, e⟩ := List.mem_map.mp m
  dsimp only at e
  split at e
  · rename_i q
    obtain ⟨q1, q2⟩ := Bool.and_eq_true_iff.mp q
    cases e
    have := beq_iff_eq.mp q1; subst this
    exact ⟨hy, beq_iff_eq.mp q2⟩
  · cases e; exact absurd rfl (hc _ hy)

set_option tactic.hygienic true in
theorem lookup_filter {β : Type} (f : Str × β → Bool) {x : Str} {v : β} : ∀ {l : List (Str × β)}, (∀ a b : β, f (x, a) = f (x, b)) → (l.filter f).lookup x = some v → l.lookup x = some v ∧ f (x, v) = true
  | [], _, h => by cases h
  | (y, u) :: r, hf, h => by
    rw [List.filter_cons] at h
    rw [List.lookup_cons]
    by_cases q : x = y
    · subst q
      simp only [beq_self_eq_true]
      split at h
      · rename_i q2
        rw [List.lookup_cons] at h
        simp only [beq_self_eq_true] at h
        cases h; exact ⟨rfl, q2⟩
      · rename_i q2
        obtain ⟨_, h2⟩ := lookup_filter f hf h
        rw [hf v u] at h2; exact absurd h2 q2
    · have : (x == y) = false := beq_eq_false_iff_ne.mpr q
      simp only [this]
      split at h
      · rw [List.lookup_cons, this] at h; exact lookup_filter f hf h
      · exact lookup_filter f hf h

section
variable {w : World} {base : Heap} {prog : Program} {n : Nat} {sc : Scope} {σ : Sg} {μ : Mu} {K : Frag}

theorem compLoop2 {A : Around} {s : Shared} {R : Result → Shared → Prop} {elt target iter : Expr} {ifs : List Expr} {scope : Scope} {pos : Pos} {it acc : Value} {env : Env} (I : Nat → Shared → Prop)
    (turn : ∀ n s, I n s → wpAny (model prog w) A (pyNext it) (fun r s₁ => match r with
      | none => R (.ok .next) s₁
      | some v => wpAny (model prog w) A (letOwnedTupleGo target it v) (fun zz s₁' => wpAny (model prog w) A (assign target env v) (fun zz s₂ =>
          wpAny (model prog w) A (forIn ifs true fun c r => if r = true then do let ok ← isTrue c env (eval c env); pure (ForInStep.yield ok) else pure (ForInStep.yield r)) (fun ok s₃ =>
            if ok = true then wpAny (model prog w) A (eval elt env) (fun x s₄ =>
              wpAny (model prog w) A (call (.builtin "list.append") [acc, x]) (fun zz s₅ => ∃ m, m < n ∧ I m s₅) (fun zz zz => False) s₄) (fun zz zz => False) s₃
            else ∃ m, m < n ∧ I m s₃) (fun zz zz => False) s₂) (fun zz zz => False) s₁') (fun zz zz => False) s₁) (fun zz zz => False) s)
    (n : Nat) (h : I n s) :
    codeAny (model prog w) A (.compLoop (.ListComp elt [⟨target, iter, ifs, 0⟩] scope pos) 0 it acc env) R s := by
  refine codeAny_loop rfl I (fun n s hI => ?_) n h
  show wpAny _ A ((compTurn (.ListComp elt [⟨target, iter, ifs, 0⟩] scope pos) 0 it acc env).onRaise (fun x => do noteFrame x env; theTreesLotGoes x)) _ _ s
  refine wpAny_noted ?_
  rw [compTurn_list]
  refine wpAny_bind (wpAny_standAt (wpAny_bind (wpAny_mono (turn n s hI) (fun r s₁ h₁ => ?_) fun zz zz h' => h'.elim)))
  cases r with
  | none => exact wpAny_pure h₁
  | some v =>
    refine wpAny_bind (wpAny_mono h₁ (fun zz s₁' h₁' => ?_) fun zz zz h' => h'.elim)
    refine wpAny_bind (wpAny_mono h₁' (fun zz s₂ h₂ => wpAny_bind (wpAny_mono h₂ (fun ok s₃ h₃ => ?_) fun zz zz h' => h'.elim)) fun zz zz h' => h'.elim)
    cases ok with
    | false => exact wpAny_pure ⟨rfl, h₃⟩
    | true =>
      exact wpAny_bind (wpAny_bind (wpAny_mono h₃ (fun x s₄ h₄ => wpAny_bind (wpAny_mono h₄ (fun zz s₅ h₅ => wpAny_pure (wpAny_pure ⟨rfl, h₅⟩)) fun zz zz h' => h'.elim)) fun zz zz h' => h'.elim))

/-- the tests of a comprehension: none, or one -/
noncomputable def Tests (prog : Program) (w : World) (base : Heap) (n : Nat) (sc : Scope) (ifs : List Expr) (σ : Sg) (μ : Mu) (post : Bool → Mu → Prop) : Prop :=
  match ifs with
  | [] => post true μ
  | [c] => Tr prog w base n sc c σ μ post
  | _ => False
theorem Tests.run {ifs : List Expr} {post : Bool → Mu → Prop} (h : Tests prog w base n sc ifs σ μ post) {A env s} (R : Room n A) (G : GEnv base sc env) (H : HR w.params base μ s.heap) (F : FrR sc env σ μ s.heap) :
    wpAny (model prog w) A (forIn ifs true fun c r => if r = true then do let ok ← isTrue c env (eval c env); pure (ForInStep.yield ok) else pure (ForInStep.yield r))
      (TRes w base μ s post) (fun zz zz => False) s := by
  unfold Tests at h
  split at h
  · exact wpAny_tests_nil ⟨_, h, .refl H⟩
  · exact wpAny_tests_one (h A env s R G H F)
  · exact h.elim

/-- the turns of a list comprehension -/
noncomputable def CLoop (prog : Program) (w : World) (base : Heap) (n : Nat) (sc : Scope) (t : Expr) (ifs : List Expr) (elt : Expr) (cond : Mu → Prop) (post : List MV → Mu → Prop) : List MV → List MV → Sg → Mu → Prop
  | [], acc, _, μ => cond μ ∧ post acc μ
  | x :: r, acc, σ, μ => cond μ ∧ acc.length ≤ 1000 ∧ Asg true prog w base n sc t x σ μ (fun σ₁ μ₁ => Tests prog w base n sc ifs σ₁ μ₁ (fun b μ₂ =>
      if b then Ev prog w base n sc elt σ₁ μ₂ (fun v μ₃ => CLoop prog w base n sc t ifs elt cond post r (acc ++ [v]) σ₁ μ₃)
      else CLoop prog w base n sc t ifs elt cond post r acc σ₁ μ₂))

theorem IsL.append {h : Heap} : ∀ {a b : List MV} {x y : List Value}, IsL h a x → IsL h b y → IsL h (a ++ b) (x ++ y)
  | _, _, _, _, .nil, j => j
  | _, _, _, _, .cons i r, j => .cons i (r.append j)

theorem tupKeep_but {h h' : Heap} {D : Addr} {o : Obj} (ho : h.get? D = some o) (hno : o.cls ≠ .type "tuple") (hs : ∀ b o, b ≠ D → h.get? b = some o → h'.get? b = some o) : TupKeep h h' := fun a items t => by
  obtain ⟨o', ho', hc', r⟩ := t
  exact ⟨o', hs a o' (fun e => by subst e; rw [ho] at ho'; cases ho'; exact hno hc') ho', hc', r⟩

/-- what the walk of a comprehension has come to -/
structure CompEnd (P : Params) (base : Heap) (μ : Mu) (s : Shared) (D C : Addr) (acc : List MV) (μ' : Mu) (s' : Shared) : Prop where
  done : Done P base μ s μ' s'
  ns : ∃ m, s'.heap.Ns C m
  list : ListIs s'.heap D acc
  newD : s.heap.get? D = none
  newC : s.heap.get? C = none
  ne : D ≠ C
  nD : ¬ muts μ' D
  nC : ¬ muts μ' C

theorem Tests.mono {ifs : List Expr} {post post' : Bool → Mu → Prop} (h : Tests prog w base n sc ifs σ μ post) (hp : ∀ b μ, post b μ → post' b μ) : Tests prog w base n sc ifs σ μ post' := by
  unfold Tests at *
  split at h
  · exact hp _ _ h
  · exact h.mono hp
  · exact h.elim
noncomputable def EvL (m : Nat) (prog : Program) (w : World) (base : Heap) (n : Nat) (sc : Scope) (e : Expr) (σ : Sg) (μ : Mu) (post : MV → Mu → Prop) : Prop :=
  ∀ A env s, m ≤ s.toks → Room n A → GEnv base sc env → HR w.params base μ s.heap → FrR sc env σ μ s.heap → EvT prog w base A (eval e env) μ s s post
theorem EvL.of {m : Nat} {e} {post : MV → Mu → Prop} (h : Ev prog w base n sc e σ μ post) : EvL m prog w base n sc e σ μ post := fun A env s zz R G H F => h A env s R G H F
theorem EvL.mono {m : Nat} {e} {post post' : MV → Mu → Prop} (x : EvL m prog w base n sc e σ μ post) (h : ∀ v μ', post v μ' → post' v μ') : EvL m prog w base n sc e σ μ post' :=
  fun A env s t r g H F => (x A env s t r g H F).mono h
noncomputable def CLoopL (m : Nat) (prog : Program) (w : World) (base : Heap) (n : Nat) (sc : Scope) (t : Expr) (ifs : List Expr) (elt : Expr) (cond : Mu → Prop) (post : List MV → Mu → Prop) : List MV → List MV → Sg → Mu → Prop
  | [], acc, _, μ => cond μ ∧ post acc μ
  | x :: r, acc, σ, μ => cond μ ∧ acc.length ≤ 1000 ∧ Asg true prog w base n sc t x σ μ (fun σ₁ μ₁ => Tests prog w base n sc ifs σ₁ μ₁ (fun b μ₂ =>
      if b then EvL m prog w base n sc elt σ₁ μ₂ (fun v μ₃ => CLoopL m prog w base n sc t ifs elt cond post r (acc ++ [v]) σ₁ μ₃)
      else CLoopL m prog w base n sc t ifs elt cond post r acc σ₁ μ₂))

inductive CompI (items : List MV) (P : List MV → List MV → Sg → Mu → Prop) (Q : Mu → Shared → Prop) (R : Sg → Mu → Heap → Prop) (St : Nat → Heap → Prop) (it D : Addr) (m : Nat) (k : Nat) (s' : Shared) : Prop
  | mk (done rest acc : List MV) (σ' : Sg) (μ' : Mu) (ei : items = done ++ rest) (hk : rest.length = k) (lp : P rest acc σ' μ') (d : Q μ' s') (F : R σ' μ' s'.heap) (st : St done.length s'.heap) (hl : ListIs s'.heap D acc)
    (nm : ¬ muts μ' it) (nmd : ¬ muts μ' D) (ht : m ≤ s'.toks)

theorem comp_coreL {m : Nat} {elt t iter : Expr} {ifs : List Expr} {scope : Scope} {pos : Pos} {post : List MV → Mu → Prop} (hok : compOk scope sc = true)
    {A : Around} {env : Env} {s s₂ : Shared} {it : Addr} {cond : Mu → Prop} {items : List MV} {μ₁ : Mu} (J : Itr prog w base it cond items)
    (hmt : m ≤ s₂.toks) (R : Room n A) (G : GEnv base sc env) (H : HR w.params base μ s.heap) (F : FrR sc env σ μ s.heap) (d₁ : Done w.params base μ s μ₁ s₂) (st₀ : J.St 0 s₂.heap) (new : s.heap.get? it = none) (nm : ¬ muts μ₁ it)
    (h : CLoopL m prog w base n (relab scope sc) t ifs elt cond post items [] (capt scope sc σ) μ₁)
    {RR : Value → Addr → Result → Shared → Prop}
    (hRR : ∀ D C acc μ' s', post acc μ' → CompEnd w.params base μ s D C acc μ' s' → RR (.ref D) C (.ok .next) s') :
    wpAny (model prog w) A (newList []) (fun acc s₃ => wpAny (model prog w) A (newFunctionEnv scope env.globals (closL env scope.names []) [] env.qual none .none (some env)) (fun cenv s₄ =>
      codeAny (model prog w) A (.compStart (.ListComp elt [⟨t, iter, ifs, 0⟩] scope pos) 0 (.ref it) acc { cenv with scope := relabel scope env }) (RR acc cenv.locals) s₄) (fun zz zz => False) s₃) (fun zz zz => False) s₂ := by
  unfold compOk at hok
  obtain ⟨hok, hall⟩ := Bool.and_eq_true_iff.mp hok
  obtain ⟨hkind, hnd⟩ := Bool.and_eq_true_iff.mp hok
  have hkind := eq_of_beq hkind
  have hnd := of_decide_eq_true hnd
  have hcell : ∀ x ∈ scope.names, x.2 ≠ .cell := fun x hx => by
    have := List.all_eq_true.mp hall x hx
    simpa using (Bool.and_eq_true_iff.mp this).1
  have hfree : ∀ x ∈ scope.names, x.2 = .free → sc.names.lookup x.1 = some .cell := fun x hx e => by
    have := List.all_eq_true.mp hall x hx
    have := (Bool.and_eq_true_iff.mp this).2
    rw [e] at this
    simpa using this
  have hfr : ∀ x ∈ scope.names, x.2 = .free → (env.cells.lookup x.1).isSome = true := fun x hx e => G.cs x.1 (by rw [G.sc_]; exact hfree x hx e)
  obtain ⟨c1, c2, c3⟩ := closL_spec G.apart scope.names [] hnd (fun zz zz zz h => by cases h) (fun zz h => by cases h) .nil hfr
  generalize hcl : closL env scope.names [] = cl at c1 c2 c3
  refine wpAny_newObj_type (wpAny_newFunctionEnv hcell (by intro y hy; simp at hy) (fun h₁ hns₁ hsb₁ => ?_) hkind)
  dsimp only at hns₁ hsb₁ ⊢
  generalize hH2 : s₂.heap.push { cls := .type "list", dict := none, data := .seq ([] : List Value).toArray } = H2 at hns₁ hsb₁ ⊢
  have hC : H2.objs.size = s₂.heap.objs.size + 1 := by rw [← hH2, Heap.size_push]
  have hDC : s₂.heap.objs.size ≠ H2.objs.size := by rw [hC]; exact Nat.ne_of_lt (Nat.lt_succ_self _)
  generalize hDe : s₂.heap.objs.size = D at *
  generalize hCe : H2.objs.size = C at *
  have below : ∀ b o, s₂.heap.get? b = some o → b ≠ C ∧ b ≠ D := fun b o e => by
    have := Heap.lt_size e
    rw [hDe] at this
    refine ⟨?_, Nat.ne_of_lt this⟩
    rw [hC]; exact Nat.ne_of_lt (Nat.lt_succ_of_lt this)
  have old : ∀ b o, s₂.heap.get? b = some o → h₁.get? b = some o := fun b o e => hsb₁.extBut b o (below b _ e).1 (Heap.get?_push_of_some _ (hH2 ▸ Heap.get?_push_of_some _ e))
  have hacc : ListIs h₁ D [] := ⟨[], 0, hsb₁.extBut _ _ hDC (Heap.get?_push_of_some _ (by rw [← hH2, ← hDe]; exact Heap.get?_push_size _ rfl)), .nil⟩
  have none2 : ∀ b, s₂.heap.get? b = none → s.heap.get? b = none := fun b q => by
    cases e : s.heap.get? b with
    | none => rfl
    | some o => obtain ⟨o', e'⟩ := d₁.ext.alive _ _ e; rw [q] at e'; cases e'
  have nD2 : s₂.heap.get? D = none := by rw [← hDe]; exact size_none
  have nC2 : s₂.heap.get? C = none := by
    cases e : s₂.heap.get? C with
    | none => rfl
    | some o => exact absurd rfl (below _ _ e).1
  have nD := none2 _ nD2
  have nC := none2 _ nC2
  have env_c : ∀ (e1 : relabel scope env = relab scope sc), GEnv base (relab scope sc) (compEnvC scope cl C env) := fun e1 => by
    refine ⟨e1, ?_, G.globals, G.builtins, H.base_none nC, c2, fun x c e => ?_, fun x e => ?_⟩
    · show (relabel scope env).kind = _; exact hkind
    · have z := c1 (x, c) (mem_of_lookup e)
      refine ⟨(G.clow x c z).1, fun q => ?_⟩
      obtain ⟨m, cm, _, hc, _⟩ := F.at_
      obtain ⟨o, ho, _⟩ := hc x _ z
      rw [show c = C from q, nC] at ho; cases ho
    · have e : (relabel scope env).names.lookup x = some .cell := e
      rw [e1] at e
      exact c3 x (.inl (relab_cell hnd hcell e).1)
  have e1 := relabel_eq (scope := scope) G.sc_ G.kind
  have GC := env_c e1
  have F₂ := F.keep H d₁.ext
  -- the frame of the comprehension
  have FC : FrR (relab scope sc) (compEnvC scope cl C env) (capt scope sc σ) μ₁ h₁ := by
    obtain ⟨m, cm, hn, hc, hv⟩ := F₂.at_
    refine ⟨d₁.hr.dead nC2, fun x c e => F₂.ownc x c (c1 (x, c) (mem_of_lookup e)), _, cm, hns₁, fun x c e => (hc x c (c1 (x, c) (mem_of_lookup e))).keeps old, fun x mv e => ?_⟩
    obtain ⟨e2, e3⟩ := lookup_filter (fun (p : Str × MV) => (relab scope sc).names.lookup p.1 == some .cell) (fun zz zz => rfl) e
    have e3 := beq_iff_eq.mp e3
    obtain ⟨q1, q2⟩ := relab_cell hnd hcell e3
    obtain ⟨v, i, r⟩ := hv x mv e2
    refine ⟨v, i.keep (tupKeep_of old), .inr ⟨e3, c3 x (.inl q1), ?_⟩⟩
    rcases r with ⟨r, _⟩ | ⟨_, _, r⟩
    · rw [q2] at r; cases r
    · exact r
  have dH : DoneF true w.params base (compEnvC scope cl C env) μ s μ₁ { s₂ with heap := h₁, toks := s₂.toks + ([] : List (Str × Value)).length } := (d₁.trans (.keeps d₁.hr old)).toF
  have side : ∀ b, s.heap.get? b = none → b ≠ C → Side (compEnvC scope cl C env) base μ s b := fun b q q2 => ⟨q, H.base_none q, q2, fun x e => by
    obtain ⟨m, cm, _, hc, _⟩ := F.at_
    obtain ⟨o, ho, _⟩ := hc x _ (c1 (x, b) (mem_of_lookup e)); rw [q] at ho; cases ho⟩
  obtain ⟨oit, hoit, _⟩ := J.obj _ _ st₀
  have SI : Side (compEnvC scope cl C env) base μ s it := side it new (below _ _ hoit).1
  have SD : Side (compEnvC scope cl C env) base μ s D := side D nD hDC
  have itD : it ≠ D := (below _ _ hoit).2
  have loop : ∀ s₃ : Shared, s₃ = { s₂ with heap := h₁, toks := s₂.toks + ([] : List (Str × Value)).length } →
      codeAny (model prog w) A (.compLoop (.ListComp elt [⟨t, iter, ifs, 0⟩] scope pos) 0 (.ref it) (.ref D) (compEnvC scope cl C env)) (RR (.ref D) C) s₃ := by
    rintro s₃ rfl
    let I : Nat → Shared → Prop := CompI items (CLoopL m prog w base n (relab scope sc) t ifs elt cond post) (DoneF true w.params base (compEnvC scope cl C env) μ s) (FrR (relab scope sc) (compEnvC scope cl C env)) J.St it D m
    refine compLoop2 I (fun k s' hI => ?_) items.length ⟨[], items, [], _, μ₁, rfl, rfl, h, dH, FC, J.frame _ _ _ st₀ fun o e => old _ _ e, hacc, nm, d₁.hr.dead nD2, hmt⟩
    obtain ⟨done, rest, acc, σ', μ', ei, hk, lp, d, F', hst, hl, nmi, nmd, ht⟩ := hI
    obtain ⟨oi, hoi, hio⟩ := J.obj _ _ hst
    cases rest with
    | nil =>
      obtain ⟨hc, p⟩ := lp
      refine J.stop A s' _ μ' _ R.1 d.hr hc hst (by rw [ei]; simp) fun h' tk ks => ?_
      have tk := tupKeep_iter hoi hio ks
      have d' := d.touch (t := ‹_›) SI nmi ks tk
      have F'' := F'.away ks SI.nl SI.nc tk
      refine hRR _ _ acc μ' _ p ⟨⟨d'.hr, ⟨fun b o e nn => d'.ext.keep b o e nn (fun q => by rw [q] at e; rw [show (compEnvC scope cl C env).locals = C from rfl, nC] at e; cases e) (.inl rfl), d'.ext.grow, d'.ext.alive⟩, d'.gens, d'.os⟩,
        ?_, ?_, nD, nC, hDC, nmd, F''.own⟩
      · obtain ⟨m, cm, hn, _⟩ := F''.at_; exact ⟨m, hn⟩
      · obtain ⟨vs, c, e, il⟩ := hl; exact ⟨vs, c, ks _ _ (Ne.symm itD) e, il.keep tk⟩
    | cons x r =>
      obtain ⟨hc, hsz, p⟩ := lp
      refine wpAny_with_toks (n := m) ht (wpAny_mono (J.next A s' _ μ' x _ R.1 d.hr hc hst (by rw [ei]; simp) fun v h' tok iv ks st' ht₁ => ?_) (fun zz zz z => z) fun zz zz e => e.elim)
      have tk := tupKeep_iter hoi hio ks
      obtain ⟨oi', hoi', hio'⟩ := J.obj _ _ st'
      have d' : DoneF true w.params base (compEnvC scope cl C env) μ s μ' { s' with heap := h', toks := tok } := d.touch SI nmi ks tk
      have F'' : FrR (relab scope sc) (compEnvC scope cl C env) σ' μ' h' := F'.away ks SI.nl SI.nc tk
      have hl' : ListIs h' D acc := by obtain ⟨vs, c, e, il⟩ := hl; exact ⟨vs, c, ks _ _ (Ne.symm itD) e, il.keep tk⟩
      obtain ⟨ci, vsi, hci, hdi, hni, _, _⟩ := id hio'
      refine letOwned_any hoi' hci hni rfl ?_
      refine wpAny_with_toks (n := m) ht₁ (wpAny_mono (p A _ _ v R GC d'.hr F'' iv) (fun _ s₂' ⟨σ₂, μ₂, p₂, d₂, F₂⟩ ht₂ => ?_) fun zz zz e => e.elim)
      have keepIt : ∀ {μa sa μb sb}, DoneF true w.params base (compEnvC scope cl C env) μa sa μb sb → HR w.params base μa sa.heap → FrR (relab scope sc) (compEnvC scope cl C env) σ₂ μa sa.heap ∨ TupKeep sa.heap sb.heap →
          ¬ muts μa it → ¬ muts μa D → J.St (done.length + 1) sa.heap → ListIs sa.heap D acc → TupKeep sa.heap sb.heap → J.St (done.length + 1) sb.heap ∧ ¬ muts μb it ∧ ¬ muts μb D ∧ ListIs sb.heap D acc := by
        intro μa sa μb sb dd _ _ nn nd hh hl tkk
        obtain ⟨o, ho, r⟩ := J.obj _ _ hh
        obtain ⟨vs, c, e, il⟩ := hl
        refine ⟨J.frame _ _ _ hh fun o' e => dd.ext.keep _ _ e nn SI.nl (.inl rfl), fun m => ?_, fun m => ?_, vs, c, dd.ext.keep _ _ e nd SD.nl (.inl rfl), il.keep tkk⟩
        · rcases dd.ext.grow _ m with q | q
          · exact nn q
          · rw [ho] at q; cases q
        · rcases dd.ext.grow _ m with q | q
          · exact nd q
          · rw [e] at q; cases q
      have tk₂ := d₂.tupKeep GC d'.hr F''
      obtain ⟨it₂, nmi₂, nmd₂, hl₂⟩ := keepIt d₂ d'.hr (.inr tk₂) nmi nmd st' hl' tk₂
      refine wpAny_with_toks (n := m) ht₂ (wpAny_mono (p₂.run R GC d₂.hr F₂) (fun ok s₃ ⟨μ₃, p₃, d₃⟩ ht₃ => ?_) fun zz zz e => e.elim)
      have tk₃ := d₂.hr.tupKeep d₃.ext
      obtain ⟨it₃, nmi₃, nmd₃, hl₃⟩ := keepIt d₃.toF d₂.hr (.inr tk₃) nmi₂ nmd₂ it₂ hl₂ tk₃
      have F₃ := F₂.keep d₂.hr d₃.ext
      have dall₃ := (d'.trans d₂).trans d₃.toF
      cases ok with
      | false =>
        simp only [Bool.false_eq_true, if_false] at p₃ ⊢
        exact ⟨r.length, by rw [← hk]; exact Nat.lt_succ_self _, done ++ [x], r, acc, σ₂, μ₃, by rw [ei]; simp, rfl, p₃, dall₃, F₃, by rw [List.length_append]; exact it₃, hl₃, nmi₃, nmd₃, ht₃⟩
      | true =>
        rw [if_pos rfl] at p₃ ⊢
        refine wpAny_with_toks (n := m) ht₃ (wpAny_mono ((p₃ A _ s₃ ht₃ R GC d₃.hr F₃).then_ (Q := fun y s₄ => m ≤ s₄.toks → _) fun mv μ₄ y s₄ p₄ d₄ i₄ ht₄ => ?_) (fun zz zz z => z) fun zz zz e => e.elim)
        have tk₄ := d₃.hr.tupKeep d₄.ext
        obtain ⟨it₄, nmi₄, nmd₄, hl₄⟩ := keepIt d₄.toF d₃.hr (.inr tk₄) nmi₃ nmd₃ it₃ hl₃ tk₄
        have F₄ := F₃.keep d₃.hr d₄.ext
        have dall₄ := dall₃.trans d₄.toF
        obtain ⟨vs, c, e, il⟩ := hl₄
        refine wpAny_list_append_plain (hsz := by rw [List.size_toArray, il.length, sizeLine_eq]; lia) ⟨c, e⟩ fun h₅ hl₅ hs₅ => ?_
        have tk₅ : TupKeep s₄.heap h₅ := tupKeep_but e (by unfold W.listOf; simp) hs₅.extBut
        obtain ⟨c', e'⟩ := hl₅
        refine ⟨r.length, by rw [← hk]; exact Nat.lt_succ_self _, done ++ [x], r, acc ++ [mv], σ₂, μ₄, by rw [ei]; simp, rfl, p₄, dall₄.touch (t := s₄.toks) SD nmd₄ hs₅.extBut tk₅, F₄.away hs₅.extBut SD.nl SD.nc tk₅,
          ?_, ⟨vs ++ [y], c', by rw [e']; simp [W.listOf], (il.keep tk₅).append (.cons (i₄.keep tk₅) .nil)⟩, nmi₄, nmd₄, ht₄⟩
        rw [List.length_append]
        exact J.frame _ _ _ it₄ fun o e => hs₅.extBut _ _ itD e
  refine codeAny_compStart_list (loop _ rfl) ?_
  exact wpAny_mono (J.again A _ 0 (fun it' s' => it' = .ref it ∧ s' = _) (J.frame _ _ _ st₀ fun o e => old _ _ e) ⟨rfl, rfl⟩) (fun _ _ ⟨e1, e2⟩ => by subst e1 e2; exact loop _ rfl) fun zz zz e => e.elim

theorem CLoop.toL {t elt : Expr} {ifs : List Expr} {cond : Mu → Prop} {post : List MV → Mu → Prop} : ∀ {items acc : List MV} {σ : Sg} {μ : Mu}, CLoop prog w base n sc t ifs elt cond post items acc σ μ → CLoopL 0 prog w base n sc t ifs elt cond post items acc σ μ
  | [], _, _, _, h => h
  | _ :: _, _, _, _, ⟨h1, h2, h3⟩ => ⟨h1, h2, h3.mono fun σ₁ μ₁ p => p.mono fun b μ₂ q => by
      cases b with
      | true => rw [if_pos rfl] at q ⊢; exact EvL.of (q.mono fun v μ₃ q => q.toL)
      | false => rw [if_neg Bool.false_ne_true] at q ⊢; exact q.toL⟩
theorem comp_core {elt t iter : Expr} {ifs : List Expr} {scope : Scope} {pos : Pos} {post : List MV → Mu → Prop} (hok : compOk scope sc = true)
    {A : Around} {env : Env} {s s₂ : Shared} {it : Addr} {cond : Mu → Prop} {items : List MV} {μ₁ : Mu} (J : Itr prog w base it cond items)
    (R : Room n A) (G : GEnv base sc env) (H : HR w.params base μ s.heap) (F : FrR sc env σ μ s.heap) (d₁ : Done w.params base μ s μ₁ s₂) (st₀ : J.St 0 s₂.heap) (new : s.heap.get? it = none) (nm : ¬ muts μ₁ it)
    (h : CLoop prog w base n (relab scope sc) t ifs elt cond post items [] (capt scope sc σ) μ₁)
    {RR : Value → Addr → Result → Shared → Prop}
    (hRR : ∀ D C acc μ' s', post acc μ' → CompEnd w.params base μ s D C acc μ' s' → RR (.ref D) C (.ok .next) s') :
    wpAny (model prog w) A (newList []) (fun acc s₃ => wpAny (model prog w) A (newFunctionEnv scope env.globals (closL env scope.names []) [] env.qual none .none (some env)) (fun cenv s₄ =>
      codeAny (model prog w) A (.compStart (.ListComp elt [⟨t, iter, ifs, 0⟩] scope pos) 0 (.ref it) acc { cenv with scope := relabel scope env }) (RR acc cenv.locals) s₄) (fun zz zz => False) s₃) (fun zz zz => False) s₂ := comp_coreL (m := 0) hok J (Nat.zero_le _) R G H F d₁ st₀ new nm h.toL hRR

end
end Mine
namespace Mine
set_option tactic.hygienic false

noncomputable def MO.plain : MO → Bool
  | .inst .. => false
  | _ => true
theorem muts_set_plain {μ : Mu} {a b : Addr} {o : MO} (hp : o.plain = true) (m : muts (Mu.set μ a o) b) : muts μ b ∨ b = a := by
  cases o with
  | list l => exact muts_set_list m
  | dict l => exact muts_set_dict m
  | inst => cases hp

section
variable {w : World} {base : Heap} {prog : Program} {n : Nat} {sc : Scope} {σ : Sg} {μ : Mu} {K : Frag}

theorem ObjIs.keeps {P : Params} {h h' : Heap} (k : ∀ b o, h.get? b = some o → h'.get? b = some o) {a : Addr} {x : MO} (z : ObjIs P h a x) : ObjIs P h' a x := by
  cases x with
  | list items => exact ListIs.keeps k z
  | inst C d fs => obtain ⟨z, es, n, hd, r⟩ := z; exact ⟨k _ _ z, es, n, k _ _ hd, r.keep (tupKeep_of k)⟩
  | dict fs => obtain ⟨es, n, hd, r⟩ := z; exact ⟨es, n, k _ _ hd, r.keep (tupKeep_of k)⟩

/-- an object that no fact of μ speaks of is taken in -/
theorem HR.addObj {P : Params} {h : Heap} {a : Addr} {o : MO} (H : HR P base μ h) (hp : o.plain = true) (n : ¬ muts μ a) (hb : base.get? a = none) (ho : ObjIs P h a o) : HR P base (μ.set a o) h := by
  have nn : μ a = none := by
    cases q : μ a with
    | none => rfl
    | some x => exact absurd ⟨a, x, q, .inl rfl⟩ n
  refine ⟨H.stays, fun b x q => ?_, fun b m => ?_, fun b C d fs q => ?_⟩
  · by_cases hb : b = a
    · subst hb; rw [Mu.set_self] at q; cases q; exact ho
    · rw [Mu.set_ne hb] at q; exact H.objs b x q
  · rcases muts_set_plain hp m with m | rfl
    · exact H.fresh b m
    · exact hb
  · by_cases hb : b = a
    · subst hb; rw [Mu.set_self] at q; cases q; cases hp
    · rw [Mu.set_ne hb] at q
      obtain ⟨q1, q2⟩ := H.apart b C d fs q
      refine ⟨?_, fun a' C' fs' z => ?_⟩
      · by_cases hd : d = a
        · subst hd; exact absurd ⟨b, _, q, .inr ⟨C, fs, rfl⟩⟩ n
        · rw [Mu.set_ne hd]; exact q1
      · by_cases ha : a' = a
        · subst ha; rw [Mu.set_self] at z; cases z; cases hp
        · rw [Mu.set_ne ha] at z; exact q2 _ _ _ z
theorem Done.addObj {P : Params} {s s' : Shared} {μ' : Mu} {a : Addr} {o : MO} (d : Done P base μ s μ' s') (H : HR P base μ s.heap) (hp : o.plain = true) (n : ¬ muts μ' a) (new : s.heap.get? a = none) (ho : ObjIs P s'.heap a o) :
    Done P base μ s (μ'.set a o) s' := ⟨d.hr.addObj hp n (H.base_none new) ho, ⟨d.ext.keep, fun b m => by
      rcases muts_set_plain hp m with m | rfl
      · exact d.ext.grow b m
      · exact .inr new, d.ext.alive⟩, d.gens, d.os⟩
/-- a fresh place that changes at the end -/
theorem Done.touchC {P : Params} {s s' : Shared} {μ' : Mu} {C : Addr} {h' : Heap} {m} (d : Done P base μ s μ' s') (H : HR P base μ s.heap) (n : ¬ muts μ' C) (new : s.heap.get? C = none) (hn : s'.heap.Ns C m) (hs : Heap.SameBut C s'.heap h') :
    Done P base μ s μ' { s' with heap := h' } ∧ TupKeep s'.heap h' := by
  have tk : TupKeep s'.heap h' := fun a items t => by
    have := tup_ne_dict t hn
    obtain ⟨o, ho, r⟩ := t
    exact ⟨o, (hs.2 a this).trans ho, r⟩
  refine ⟨⟨d.hr.away hs n (H.base_none new) tk, ⟨fun b o e nn => (hs.2 b (fun q => by rw [q, new] at e; cases e)).trans (d.ext.keep b o e nn), d.ext.grow, fun b o e => ?_⟩, d.gens, d.os⟩, tk⟩
  obtain ⟨o', e'⟩ := d.ext.alive b o e
  exact ⟨o', (hs.2 b (fun q => by rw [q, new] at e; cases e)).trans e'⟩

theorem CompEnd.noD {s s' : Shared} {D C : Addr} {acc : List MV} {μ' : Mu} (c : CompEnd w.params base μ s D C acc μ' s') : μ' D = none := by
  cases q : μ' D with
  | none => rfl
  | some o => exact absurd ⟨D, o, q, .inl rfl⟩ c.nD
theorem CompEnd.fin {s s' : Shared} {D C : Addr} {acc : List MV} {μ' : Mu} {h' : Heap} {m} (c : CompEnd w.params base μ s D C acc μ' s') (H : HR w.params base μ s.heap) (hn : s'.heap.Ns C m) (hs : Heap.SameBut C s'.heap h') :
    Done w.params base μ s (μ'.set D (.list acc)) { s' with heap := h' } := by
  obtain ⟨d, tk⟩ := c.done.touchC H c.nC c.newC hn hs
  obtain ⟨vs, k, e, il⟩ := c.list
  exact d.addObj H rfl c.nD c.newD ⟨vs, k, (hs.2 _ c.ne).trans e, il.keep tk⟩

theorem names_of_ok {scope : Scope} (hok : compOk scope sc = true) : scope.kind = .function ∧ ∀ x ∈ scope.names, x.2 = .local → scope.names.lookup x.1 = some .local := by
  unfold compOk at hok
  obtain ⟨hok, _⟩ := Bool.and_eq_true_iff.mp hok
  obtain ⟨hkind, hnd⟩ := Bool.and_eq_true_iff.mp hok
  exact ⟨eq_of_beq hkind, fun x hx e => lookup_of_mem_nodup (of_decide_eq_true hnd) (by rw [← e]; exact hx)⟩

theorem closureFor_ok {scope : Scope} {env : Env} (hok : compOk scope sc = true) (G : GEnv base sc env) : closureFor scope env = pure (closL env scope.names []) := by
  unfold compOk at hok
  obtain ⟨hok, hall⟩ := Bool.and_eq_true_iff.mp hok
  have hfree : ∀ x ∈ scope.names, x.2 = .free → sc.names.lookup x.1 = some .cell := fun x hx e => by
    have := List.all_eq_true.mp hall x hx
    have := (Bool.and_eq_true_iff.mp this).2
    rw [e] at this
    simpa using this
  exact closureFor_eq fun x hx e => G.cs x.1 (by rw [G.sc_]; exact hfree x hx e)

theorem Ev.listcomp {elt t iter ifs scope pos} {post : MV → Mu → Prop} (hok : compOk scope sc = true)
    (h : Itb prog w base n sc iter σ μ (fun cond items μ₁ => CLoop prog w base n (relab scope sc) t ifs elt cond (fun acc μ₂ => ∀ D, μ₂ D = .none → post (.ref D) (μ₂.set D (.list acc))) items [] (capt scope sc σ) μ₁))
    (hs : ∀ env x, foldedSetIterable iter env x = pure x := by intro zz zz; rfl) : Ev prog w base n sc (.ListComp elt [⟨t, iter, ifs, 0⟩] scope pos) σ μ post := by
  intro A env s R G H F
  unfold EvT
  rw [eval_ListComp]
  obtain ⟨hkind, hnames⟩ := names_of_ok hok
  refine wpAny_comprehension_free (use := none) rfl (hs env) (closureFor_ok hok G) hkind hnames (wpAny_mono (h A env s R G H F) (fun xv s₁ h₁ => wpAny_mono h₁ (fun itv s₂ h₂ => ?_) fun zz zz e => e.elim) fun zz zz e => e.elim)
  obtain ⟨it, cond, items, μ₁, J, rfl, loop, d₁, st₀, new, nm₀⟩ := h₂
  exact comp_core hok J R G H F d₁ st₀ new nm₀ loop (fun D C acc μ' s' p c => by
      obtain ⟨m, hn⟩ := c.ns
      refine ⟨m, hn, fun h' hs' => ⟨.ref D, _, p D c.noD, c.fin H hn hs', .ref D⟩⟩)

theorem swaps_local {elt gens scope cpos} {env : Env} {t : Str} {p : Pos} {line : Nat} (G : GEnv base sc env) (ht : sc.names.lookup t = some .local) (hl : (p.line == cpos.line && !scope.names.any fun x => x.1 == t && (x.2 == .local || x.2 == .cell)) = true) :
    swapsWith (.ListComp elt gens scope cpos) (some (.Name t p)) line env = pure true := by
  have hk := G.kind
  have e : swapsWith (.ListComp elt gens scope cpos) (some (.Name t p)) line env = pure (env.blockKind == .function && env.kindOf t == some .local && p.line == cpos.line && !scope.names.any fun x => x.1 == t && (x.2 == .local || x.2 == .cell)) := rfl
  rw [e, Bool.and_assoc (_ && _), hl]
  unfold Env.blockKind Env.kindOf
  rw [hk, G.sc_, ht]; rfl
theorem swaps_localD {kx vx gens scope cpos} {env : Env} {t : Str} {p : Pos} {line : Nat} (G : GEnv base sc env) (ht : sc.names.lookup t = some .local) (hl : (p.line == cpos.line && !scope.names.any fun x => x.1 == t && (x.2 == .local || x.2 == .cell)) = true) :
    swapsWith (.DictComp kx vx gens scope cpos) (some (.Name t p)) line env = pure true := by
  have hk := G.kind
  have e : swapsWith (.DictComp kx vx gens scope cpos) (some (.Name t p)) line env = pure (env.blockKind == .function && env.kindOf t == some .local && p.line == cpos.line && !scope.names.any fun x => x.1 == t && (x.2 == .local || x.2 == .cell)) := rfl
  rw [e, Bool.and_assoc (_ && _), hl]
  unfold Env.blockKind Env.kindOf
  rw [hk, G.sc_, ht]; rfl
theorem swaps_cell {elt gens scope cpos} {env : Env} {t : Str} {p : Pos} {line : Nat} (G : GEnv base sc env) (ht : (sc.names.lookup t == some .local) = false) :
    swapsWith (.ListComp elt gens scope cpos) (some (.Name t p)) line env = pure false := by
  have e : swapsWith (.ListComp elt gens scope cpos) (some (.Name t p)) line env = pure (env.blockKind == .function && env.kindOf t == some .local && p.line == cpos.line && !scope.names.any fun x => x.1 == t && (x.2 == .local || x.2 == .cell)) := rfl
  rw [e]
  unfold Env.kindOf
  rw [G.sc_, ht, Bool.and_false, Bool.false_and, Bool.false_and]

/-- a list comprehension, given to a local name -/
theorem Ex.assign_listcomp {elt t iter ifs scope cpos x p pos} {post : MF → Sg → Mu → Prop} (hok : compOk scope sc = true) (hx : sc.names.lookup x = some .local) (hl : (p.line == cpos.line && !scope.names.any fun y => y.1 == x && (y.2 == .local || y.2 == .cell)) = true)
    (h : Itb prog w base n sc iter σ μ (fun cond items μ₁ => CLoop prog w base n (relab scope sc) t ifs elt cond (fun acc μ₂ => ∀ D, μ₂ D = .none → post .next (put x (.ref D) σ) (μ₂.set D (.list acc))) items [] (capt scope sc σ) μ₁))
    (hs : ∀ env x, foldedSetIterable iter env x = pure x := by intro zz zz; rfl) : Ex prog w base n sc (.Assign [.Name x p] (.ListComp elt [⟨t, iter, ifs, 0⟩] scope cpos) pos) σ μ post := by
  intro A env s R G H F
  rw [exec_Assign_Name_used _ _ _ _ (swaps_local G hx hl)]
  obtain ⟨hkind, hnames⟩ := names_of_ok hok
  refine wpAny_bind (wpAny_standAt (wpAny_bind ?_))
  show wpAny _ A (do let _ ← comprehension (.ListComp elt [⟨t, iter, ifs, 0⟩] scope cpos) scope env _ (newList []) false (eval iter env) (some (assign (.Name x p) env))) _ _ s
  refine wpAny_bind (wpAny_mono (wpAny_comprehension_free (use := some (assign (.Name x p) env)) (Q := fun zz s' => After w base sc env μ s post .next s') rfl (hs env) (closureFor_ok hok G) hkind hnames
    (wpAny_mono (h A env s R G H F) (fun xv s₁ h₁ => wpAny_mono h₁ (fun itv s₂ h₂ => ?_) fun zz zz e => e.elim) fun zz zz e => e.elim)) (fun zz s' hq => wpAny_pure (wpAny_pure hq)) fun zz zz e => e)
  obtain ⟨it, cond, items, μ₁, J, rfl, loop, d₁, st₀, new, nm₀⟩ := h₂
  refine comp_core hok J R G H F d₁ st₀ new nm₀ loop (fun D C acc μ' s' q c => ?_)
  obtain ⟨m, hn⟩ := c.ns
  obtain ⟨vs, k, e, il⟩ := c.list
  have d := c.done.addObj H (o := .list acc) rfl c.nD c.newD ⟨vs, k, e, il⟩
  have nC : ¬ muts (μ'.set D (.list acc)) C := fun mm => by
    rcases muts_set_plain rfl mm with mm | mm
    · exact c.nC mm
    · exact c.ne mm.symm
  have lC : C ≠ env.locals := fun q => by
    obtain ⟨m, cm, ⟨_, _, _, ho, _⟩, _⟩ := F.at_
    rw [← q, c.newC] at ho; cases ho
  have cC : ∀ y, env.cells.lookup y ≠ some C := fun y q => by
    obtain ⟨m, cm, _, hc, _⟩ := F.at_
    obtain ⟨_, ho, _⟩ := hc y _ q; rw [c.newC] at ho; cases ho
  refine wpAny_assign_Name (store (lo := false) G d.hr (F.keep H d.ext) (.ref D) (.inl hx) fun s'' d' F' => ?_)
  obtain ⟨oC, esC, epC, hoC, rest⟩ := hn
  refine ⟨m, ⟨oC, esC, epC, d'.ext.keep C _ hoC nC lC (.inr cC), rest⟩, fun h' hs' => ?_⟩
  have dd := d.toF.trans d'
  have tk : TupKeep s''.heap h' := fun a items t => by
    have := tup_ne_dict t (m := m) (L := C) ⟨oC, esC, epC, d'.ext.keep C _ hoC nC lC (.inr cC), rest⟩
    obtain ⟨o, ho, r⟩ := t
    exact ⟨o, (hs'.2 a this).trans ho, r⟩
  refine ⟨.next, _, _, q D c.noD, ?_, F'.away hs'.extBut lC cC tk, .next⟩
  exact dd.touch (t := s''.toks) ⟨c.newC, H.base_none c.newC, lC, cC⟩ nC hs'.extBut tk
end
end Mine
namespace Mine
set_option tactic.hygienic false

inductive PairIs (h : Heap) : Sg → List (Str × Value) → Prop
  | nil : PairIs h [] []
  | cons {x mv v σ b} : Is h mv v → PairIs h σ b → PairIs h ((x, mv) :: σ) ((x, v) :: b)
theorem PairIs.names {h : Heap} : ∀ {σ : Sg} {b : List (Str × Value)}, PairIs h σ b → b.map (·.1) = σ.map (·.1)
  | _, _, .nil => rfl
  | _, _, .cons _ r => by simp only [List.map_cons, r.names]
theorem PairIs.keep {h h' : Heap} (k : TupKeep h h') : ∀ {σ : Sg} {b : List (Str × Value)}, PairIs h σ b → PairIs h' σ b
  | _, _, .nil => .nil
  | _, _, .cons i r => .cons (i.keep k) (r.keep k)
theorem PairIs.length {h : Heap} : ∀ {σ : Sg} {b : List (Str × Value)}, PairIs h σ b → b.length = σ.length
  | _, _, .nil => rfl
  | _, _, .cons _ r => congrArg (· + 1) r.length
theorem stored_cons_ne {x k : Str} {u v : Value} {r : List (Str × Value)} (h : x ≠ k) : stored ((x, u) :: r) k v = (x, u) :: stored r k v := by
  unfold stored
  rw [List.any_cons, List.map_cons]
  simp only [h, decide_false, Bool.false_or, if_false]
  split <;> rfl
theorem PairIs.put {h : Heap} {k : Str} {mv : MV} {v : Value} : ∀ {σ : Sg} {b : List (Str × Value)}, PairIs h σ b → (σ.map (·.1)).Nodup → Is h mv v → PairIs h (put k mv σ) (stored b k v)
  | _, _, .nil, _, i => .cons i .nil
  | _, _, .cons (x := x) (v := u) (σ := σ) (b := b) j r, hn, i => by
    obtain ⟨hn1, hn2⟩ := List.nodup_cons.mp hn
    unfold Mine.put
    by_cases q : k = x
    · subst q
      rw [if_pos (beq_self_eq_true _)]
      have : stored ((k, u) :: b) k v = (k, v) :: b := by
        unfold stored
        rw [List.any_cons, List.map_cons]
        simp only [decide_true, Bool.true_or, if_true]
        congr 1
        have hb : ∀ y ∈ b, y.1 ≠ k := fun y hy e => hn1 (by show k ∈ _; rw [← r.names, ← e]; exact List.mem_map_of_mem hy)
        clear r hn hn1 hn2
        induction b with
        | nil => rfl
        | cons y b ih =>
          rw [List.map_cons, if_neg (hb y (.head _)), ih fun z hz => hb z (.tail _ hz)]
      rw [this]; exact .cons i r
    · rw [if_neg (by simpa using q), stored_cons_ne (Ne.symm q)]
      exact .cons j (r.put hn2 i)
set_option tactic.hygienic true in
theorem put_names {k : Str} {mv : MV} : ∀ {σ : Sg} {y : Str}, y ∈ (put k mv σ).map (·.1) → y = k ∨ y ∈ σ.map (·.1)
  | [], y, h => by
    unfold put at h
    simp at h; exact .inl h
  | (x, u) :: r, y, h => by
    unfold put at h
    split at h
    · exact .inr (by rename_i q; have := beq_iff_eq.mp q; subst this; exact h)
    · rcases List.mem_cons.mp h with e | h
      · exact .inr (by rw [e]; exact .head _)
      · exact (put_names h).imp id fun q => .tail _ q
set_option tactic.hygienic true in
theorem put_nodup {k : Str} {mv : MV} : ∀ {σ : Sg}, (σ.map (·.1)).Nodup → ((put k mv σ).map (·.1)).Nodup
  | [], _ => by unfold put; simp
  | (x, u) :: r, hn => by
    obtain ⟨hn1, hn2⟩ := List.nodup_cons.mp hn
    unfold put
    split
    · rename_i q; have := beq_iff_eq.mp q; subst this; exact List.nodup_cons.mpr ⟨hn1, hn2⟩
    · rename_i q
      refine List.nodup_cons.mpr ⟨fun m => ?_, put_nodup hn2⟩
      rcases put_names m with e | m
      · exact q (by rw [← show x = k from e]; simp)
      · exact hn1 m

section
variable {w : World} {base : Heap} {prog : Program} {n : Nat} {sc : Scope} {σ : Sg} {μ : Mu} {K : Frag}

theorem DictIs.to {h : Heap} {d : Addr} {fs : Sg} (x : DictIs w.params h d fs) (nd : (fs.map (·.1)).Nodup) : ∃ kvs, h.DictOf (strKind prog w) d kvs ∧ PairIs h fs kvs := by
  obtain ⟨es, n, ho, E⟩ := x
  have key : ∀ {fs : Sg} {es : List DictEntry}, EntsIs w.params h fs es → ∃ kvs : List (Str × Value), PairIs h fs kvs ∧ Pairs (strKind prog w) es kvs ∧ ∀ e ∈ es, ∃ k, (strKind prog w).is k e.key = true ∧ e.hash = (strKind prog w).hash k := by
    intro fs es E
    induction E with
    | nil => exact ⟨[], .nil, .nil, fun zz h => by cases h⟩
    | @cons f e fs es E _ ih =>
      obtain ⟨kvs, a, b, c⟩ := ih
      obtain ⟨t, ek⟩ := E.key
      have hk : (strKind prog w).is f.1 e.key = true := by rw [ek]; show Value.isStrOf f.1 (.str f.1 t) = true; simp [Value.isStrOf]
      refine ⟨(f.1, e.val) :: kvs, .cons E.val a, .cons hk rfl b, fun e' h => ?_⟩
      rcases List.mem_cons.mp h with rfl | h
      · exact ⟨f.1, hk, E.hash⟩
      · exact c _ h
  obtain ⟨kvs, a, b, c⟩ := key E
  refine ⟨kvs, ⟨_, es.toArray, n, ho, ⟨rfl, rfl, rfl⟩, rfl, fun e he => c e (by simpa using he), by simpa using b, by rw [a.names]; exact nd⟩, a⟩
theorem DictIs.of {h : Heap} {d : Addr} {fs : Sg} {kvs : List (Str × Value)} (x : h.DictOf (strKind prog w) d kvs) (p : PairIs h fs kvs) : DictIs w.params h d fs := by
  obtain ⟨o, es, ep, ho, ⟨h1, h2, h3⟩, hd, hk, hp, nodd⟩ := x
  clear nodd
  refine ⟨es.toList, ep, ?_, ?_⟩
  · obtain ⟨oc, od, oda, osl⟩ := o
    dsimp only at h1 h2 h3 hd
    subst h1 h2 h3 hd
    rw [ho]
  · have hk : ∀ e ∈ es.toList, ∃ k, (strKind prog w).is k e.key = true ∧ e.hash = (strKind prog w).hash k := fun e he => hk e (by simpa using he)
    generalize es.toList = l at hp hk
    clear ho hd
    induction hp generalizing fs with
    | nil => cases p; exact .nil
    | @cons e kv es kvs q1 q2 q3 ih =>
      cases p with
      | cons i r =>
        refine .cons ⟨?_, ?_, ?_⟩ (ih r fun e he => hk e (.tail _ he))
        · obtain ⟨t, e1⟩ := Value.isStrOf_shape (show Value.isStrOf _ e.key = true from q1)
          exact ⟨t, e1⟩
        · obtain ⟨k, k1, k2⟩ := hk e (.head _)
          have := (strKind prog w).inj _ _ _ k1 q1
          rw [k2, this]; rfl
        · dsimp only at q2; rw [q2]; exact i

theorem compLoopD {A : Around} {s : Shared} {R : Result → Shared → Prop} {kx vx target iter : Expr} {scope : Scope} {pos : Pos} {it : Value} {D : Addr} {env : Env} (I : Nat → Shared → Prop)
    (turn : ∀ n s, I n s → wpAny (model prog w) A (pyNext it) (fun r s₁ => match r with
      | none => R (.ok .next) s₁
      | some v => wpAny (model prog w) A (letOwnedTupleGo target it v) (fun zz s₁' => wpAny (model prog w) A (assign target env v) (fun zz s₂ =>
          wpAny (model prog w) A (eval kx env) (fun kv s₃ => wpAny (model prog w) A (eval vx env) (fun x s₄ =>
              wpAny (model prog w) A (dictSet D kv x) (fun zz s₅ => ∃ m, m < n ∧ I m s₅) (fun zz zz => False) s₄) (fun zz zz => False) s₃) (fun zz zz => False) s₂) (fun zz zz => False) s₁') (fun zz zz => False) s₁) (fun zz zz => False) s)
    (n : Nat) (h : I n s) :
    codeAny (model prog w) A (.compLoop (.DictComp kx vx [⟨target, iter, [], 0⟩] scope pos) 0 it (.ref D) env) R s := by
  refine codeAny_loop rfl I (fun n s hI => ?_) n h
  show wpAny _ A ((compTurn (.DictComp kx vx [⟨target, iter, [], 0⟩] scope pos) 0 it (.ref D) env).onRaise (fun x => do noteFrame x env; theTreesLotGoes x)) _ _ s
  refine wpAny_noted ?_
  rw [compTurn_dict]
  refine wpAny_bind (wpAny_standAt (wpAny_bind (wpAny_mono (turn n s hI) (fun r s₁ h₁ => ?_) fun zz zz h' => h'.elim)))
  cases r with
  | none => exact wpAny_pure h₁
  | some v =>
    refine wpAny_bind (wpAny_mono h₁ (fun zz s₁' h₁' => ?_) fun zz zz h' => h'.elim)
    refine wpAny_bind (wpAny_mono h₁' (fun zz s₂ h₂ => wpAny_bind (wpAny_pure (a := true) ?_)) fun zz zz h' => h'.elim)
    exact wpAny_bind (wpAny_bind (wpAny_mono h₂ (fun kv s₄ h₄ => wpAny_bind (wpAny_holding (wpAny_mono h₄ (fun vv s₅ h₅ => wpAny_bind (wpAny_standAt (wpAny_holding (wpAny_mono h₅ (fun zz s₆ h₆ => wpAny_pure ⟨rfl, h₆⟩) fun zz zz h' => h'.elim)))) fun zz zz h' => h'.elim))) fun zz zz h' => h'.elim))

/-- the turns of a dict comprehension -/
noncomputable def DLoop (prog : Program) (w : World) (base : Heap) (n : Nat) (sc : Scope) (t kx vx : Expr) (cond : Mu → Prop) (post : Sg → Mu → Prop) : List MV → Sg → Sg → Mu → Prop
  | [], acc, _, μ => cond μ ∧ post acc μ
  | x :: r, acc, σ, μ => cond μ ∧ acc.length ≤ 1000 ∧ Asg true prog w base n sc t x σ μ (fun σ₁ μ₁ => Ev prog w base n sc kx σ₁ μ₁ (fun kv μ₂ => ∃ k, kv = .str k ∧
      Ev prog w base n sc vx σ₁ μ₂ (fun v μ₃ => DLoop prog w base n sc t kx vx cond post r (put k v acc) σ₁ μ₃)))

structure CompEndD (P : Params) (base : Heap) (μ : Mu) (s : Shared) (D C : Addr) (acc : Sg) (μ' : Mu) (s' : Shared) : Prop where
  done : Done P base μ s μ' s'
  ns : ∃ m, s'.heap.Ns C m
  dict : DictIs P s'.heap D acc
  nodup : (acc.map (·.1)).Nodup
  newD : s.heap.get? D = none
  newC : s.heap.get? C = none
  ne : D ≠ C
  nD : ¬ muts μ' D
  nC : ¬ muts μ' C
  big : ∀ b o, base.get? b = some o → b < D

inductive DictI (items : List MV) (prm : Params) (P : List MV → List (Str × MV) → Sg → Mu → Prop) (Q : Mu → Shared → Prop) (R : Sg → Mu → Heap → Prop) (St : Nat → Heap → Prop) (it D : Addr) (k : Nat) (s' : Shared) : Prop
  | mk (done rest : List MV) (acc : List (Str × MV)) (σ' : Sg) (μ' : Mu) (ei : items = done ++ rest) (hk : rest.length = k) (lp : P rest acc σ' μ') (d : Q μ' s') (F : R σ' μ' s'.heap) (st : St done.length s'.heap)
    (hl : DictIs prm s'.heap D acc ∧ (acc.map (·.1)).Nodup) (nm : ¬ muts μ' it) (nmd : ¬ muts μ' D)

theorem comp_coreD {kx vx t iter : Expr} {scope : Scope} {pos : Pos} {post : Sg → Mu → Prop} (hok : compOk scope sc = true)
    {A : Around} {env : Env} {s s₂ : Shared} {it : Addr} {cond : Mu → Prop} {items : List MV} {μ₁ : Mu} (J : Itr prog w base it cond items)
    (R : Room n A) (G : GEnv base sc env) (H : HR w.params base μ s.heap) (F : FrR sc env σ μ s.heap) (d₁ : Done w.params base μ s μ₁ s₂) (st₀ : J.St 0 s₂.heap) (new : s.heap.get? it = none) (nm : ¬ muts μ₁ it)
    (h : DLoop prog w base n (relab scope sc) t kx vx cond post items [] (capt scope sc σ) μ₁)
    {RR : Value → Addr → Result → Shared → Prop}
    (hRR : ∀ D C acc μ' s', post acc μ' → CompEndD w.params base μ s D C acc μ' s' → RR (.ref D) C (.ok .next) s') :
    wpAny (model prog w) A newDict (fun acc s₃ => wpAny (model prog w) A (newFunctionEnv scope env.globals (closL env scope.names []) [] env.qual none .none (some env)) (fun cenv s₄ =>
      codeAny (model prog w) A (.compStart (.DictComp kx vx [⟨t, iter, [], 0⟩] scope pos) 0 (.ref it) acc { cenv with scope := relabel scope env }) (RR acc cenv.locals) s₄) (fun zz zz => False) s₃) (fun zz zz => False) s₂ := by
  unfold compOk at hok
  obtain ⟨hok, hall⟩ := Bool.and_eq_true_iff.mp hok
  obtain ⟨hkind, hnd⟩ := Bool.and_eq_true_iff.mp hok
  have hkind := eq_of_beq hkind
  have hnd := of_decide_eq_true hnd
  have hcell : ∀ x ∈ scope.names, x.2 ≠ .cell := fun x hx => by
    have := List.all_eq_true.mp hall x hx
    simpa using (Bool.and_eq_true_iff.mp this).1
  have hfree : ∀ x ∈ scope.names, x.2 = .free → sc.names.lookup x.1 = some .cell := fun x hx e => by
    have := List.all_eq_true.mp hall x hx
    have := (Bool.and_eq_true_iff.mp this).2
    rw [e] at this
    simpa using this
  have hfr : ∀ x ∈ scope.names, x.2 = .free → (env.cells.lookup x.1).isSome = true := fun x hx e => G.cs x.1 (by rw [G.sc_]; exact hfree x hx e)
  obtain ⟨c1, c2, c3⟩ := closL_spec G.apart scope.names [] hnd (fun zz zz zz h => by cases h) (fun zz h => by cases h) .nil hfr
  generalize hcl : closL env scope.names [] = cl at c1 c2 c3
  refine wpAny_newObj_type (wpAny_newFunctionEnv hcell (by intro y hy; simp at hy) (fun h₁ hns₁ hsb₁ => ?_) hkind)
  dsimp only at hns₁ hsb₁ ⊢
  generalize hH2 : s₂.heap.push { cls := .type "dict", dict := none, data := .dict #[] } = H2 at hns₁ hsb₁ ⊢
  have hC : H2.objs.size = s₂.heap.objs.size + 1 := by rw [← hH2, Heap.size_push]
  have hDC : s₂.heap.objs.size ≠ H2.objs.size := by rw [hC]; exact Nat.ne_of_lt (Nat.lt_succ_self _)
  generalize hDe : s₂.heap.objs.size = D at *
  generalize hCe : H2.objs.size = C at *
  have below : ∀ b o, s₂.heap.get? b = some o → b ≠ C ∧ b ≠ D := fun b o e => by
    have := Heap.lt_size e
    rw [hDe] at this
    refine ⟨?_, Nat.ne_of_lt this⟩
    rw [hC]; exact Nat.ne_of_lt (Nat.lt_succ_of_lt this)
  have old : ∀ b o, s₂.heap.get? b = some o → h₁.get? b = some o := fun b o e => hsb₁.extBut b o (below b _ e).1 (Heap.get?_push_of_some _ (hH2 ▸ Heap.get?_push_of_some _ e))
  have hacc : DictIs w.params h₁ D [] := ⟨[], 0, hsb₁.extBut _ _ hDC (Heap.get?_push_of_some _ (by rw [← hH2, ← hDe]; exact Heap.get?_push_size _ rfl)), .nil⟩
  have none2 : ∀ b, s₂.heap.get? b = none → s.heap.get? b = none := fun b q => by
    cases e : s.heap.get? b with
    | none => rfl
    | some o => obtain ⟨o', e'⟩ := d₁.ext.alive _ _ e; rw [q] at e'; cases e'
  have nD2 : s₂.heap.get? D = none := by rw [← hDe]; exact size_none
  have nC2 : s₂.heap.get? C = none := by
    cases e : s₂.heap.get? C with
    | none => rfl
    | some o => exact absurd rfl (below _ _ e).1
  have nD := none2 _ nD2
  have nC := none2 _ nC2
  have env_c : ∀ (e1 : relabel scope env = relab scope sc), GEnv base (relab scope sc) (compEnvC scope cl C env) := fun e1 => by
    refine ⟨e1, ?_, G.globals, G.builtins, H.base_none nC, c2, fun x c e => ?_, fun x e => ?_⟩
    · show (relabel scope env).kind = _; exact hkind
    · have z := c1 (x, c) (mem_of_lookup e)
      refine ⟨(G.clow x c z).1, fun q => ?_⟩
      obtain ⟨m, cm, _, hc, _⟩ := F.at_
      obtain ⟨o, ho, _⟩ := hc x _ z
      rw [show c = C from q, nC] at ho; cases ho
    · have e : (relabel scope env).names.lookup x = some .cell := e
      rw [e1] at e
      exact c3 x (.inl (relab_cell hnd hcell e).1)
  have e1 := relabel_eq (scope := scope) G.sc_ G.kind
  have GC := env_c e1
  have F₂ := F.keep H d₁.ext
  -- the frame of the comprehension
  have FC : FrR (relab scope sc) (compEnvC scope cl C env) (capt scope sc σ) μ₁ h₁ := by
    obtain ⟨m, cm, hn, hc, hv⟩ := F₂.at_
    refine ⟨d₁.hr.dead nC2, fun x c e => F₂.ownc x c (c1 (x, c) (mem_of_lookup e)), _, cm, hns₁, fun x c e => (hc x c (c1 (x, c) (mem_of_lookup e))).keeps old, fun x mv e => ?_⟩
    obtain ⟨e2, e3⟩ := lookup_filter (fun (p : Str × MV) => (relab scope sc).names.lookup p.1 == some .cell) (fun zz zz => rfl) e
    have e3 := beq_iff_eq.mp e3
    obtain ⟨q1, q2⟩ := relab_cell hnd hcell e3
    obtain ⟨v, i, r⟩ := hv x mv e2
    refine ⟨v, i.keep (tupKeep_of old), .inr ⟨e3, c3 x (.inl q1), ?_⟩⟩
    rcases r with ⟨r, _⟩ | ⟨_, _, r⟩
    · rw [q2] at r; cases r
    · exact r
  have dH : DoneF true w.params base (compEnvC scope cl C env) μ s μ₁ { s₂ with heap := h₁, toks := s₂.toks + ([] : List (Str × Value)).length } := (d₁.trans (.keeps d₁.hr old)).toF
  have side : ∀ b, s.heap.get? b = none → b ≠ C → Side (compEnvC scope cl C env) base μ s b := fun b q q2 => ⟨q, H.base_none q, q2, fun x e => by
    obtain ⟨m, cm, _, hc, _⟩ := F.at_
    obtain ⟨o, ho, _⟩ := hc x _ (c1 (x, b) (mem_of_lookup e)); rw [q] at ho; cases ho⟩
  obtain ⟨oit, hoit, _⟩ := J.obj _ _ st₀
  have SI : Side (compEnvC scope cl C env) base μ s it := side it new (below _ _ hoit).1
  have SD : Side (compEnvC scope cl C env) base μ s D := side D nD hDC
  have itD : it ≠ D := (below _ _ hoit).2
  have loop : ∀ s₃ : Shared, s₃ = { s₂ with heap := h₁, toks := s₂.toks + ([] : List (Str × Value)).length } →
      codeAny (model prog w) A (.compLoop (.DictComp kx vx [⟨t, iter, [], 0⟩] scope pos) 0 (.ref it) (.ref D) (compEnvC scope cl C env)) (RR (.ref D) C) s₃ := by
    rintro s₃ rfl
    let I : Nat → Shared → Prop := DictI items w.params (DLoop prog w base n (relab scope sc) t kx vx cond post) (DoneF true w.params base (compEnvC scope cl C env) μ s) (FrR (relab scope sc) (compEnvC scope cl C env)) J.St it D
    refine compLoopD I (fun k s' hI => ?_) items.length ⟨[], items, [], _, μ₁, rfl, rfl, h, dH, FC, J.frame _ _ _ st₀ fun o e => old _ _ e, ⟨hacc, .nil⟩, nm, d₁.hr.dead nD2⟩
    obtain ⟨done, rest, acc, σ', μ', ei, hk, lp, d, F', hst, ⟨hl, hnd'⟩, nmi, nmd⟩ := hI
    obtain ⟨oi, hoi, hio⟩ := J.obj _ _ hst
    cases rest with
    | nil =>
      obtain ⟨hc, p⟩ := lp
      refine J.stop A s' _ μ' _ R.1 d.hr hc hst (by rw [ei]; simp) fun h' tk ks => ?_
      have tk := tupKeep_iter hoi hio ks
      have d' := d.touch (t := ‹_›) SI nmi ks tk
      have F'' := F'.away ks SI.nl SI.nc tk
      refine hRR _ _ acc μ' _ p ⟨⟨d'.hr, ⟨fun b o e nn => d'.ext.keep b o e nn (fun q => by rw [q] at e; rw [show (compEnvC scope cl C env).locals = C from rfl, nC] at e; cases e) (.inl rfl), d'.ext.grow, d'.ext.alive⟩, d'.gens, d'.os⟩,
        ?_, ?_, hnd', nD, nC, hDC, nmd, F''.own, fun b o e => by
          obtain ⟨o', e'⟩ := d₁.ext.alive _ _ (H.stays _ _ e)
          have := Heap.lt_size e'
          rwa [hDe] at this⟩
      · obtain ⟨m, cm, hn, _⟩ := F''.at_; exact ⟨m, hn⟩
      · obtain ⟨vs, c, e, il⟩ := hl; exact ⟨vs, c, ks _ _ (Ne.symm itD) e, il.keep tk⟩
    | cons x r =>
      obtain ⟨hc, hsz, p⟩ := lp
      refine J.next A s' _ μ' x _ R.1 d.hr hc hst (by rw [ei]; simp) fun v h' tok iv ks st' => ?_
      have tk := tupKeep_iter hoi hio ks
      obtain ⟨oi', hoi', hio'⟩ := J.obj _ _ st'
      have d' : DoneF true w.params base (compEnvC scope cl C env) μ s μ' { s' with heap := h', toks := tok } := d.touch SI nmi ks tk
      have F'' : FrR (relab scope sc) (compEnvC scope cl C env) σ' μ' h' := F'.away ks SI.nl SI.nc tk
      have hl' : DictIs w.params h' D acc := by obtain ⟨vs, c, e, il⟩ := hl; exact ⟨vs, c, ks _ _ (Ne.symm itD) e, il.keep tk⟩
      obtain ⟨ci, vsi, hci, hdi, hni, _, _⟩ := id hio'
      refine letOwned_any hoi' hci hni rfl ?_
      refine wpAny_mono (p A _ _ v R GC d'.hr F'' iv) (fun _ s₂' ⟨σ₂, μ₂, p₂, d₂, F₂⟩ => ?_) fun zz zz e => e
      have keepIt : ∀ {μa sa μb sb}, DoneF true w.params base (compEnvC scope cl C env) μa sa μb sb → HR w.params base μa sa.heap → FrR (relab scope sc) (compEnvC scope cl C env) σ₂ μa sa.heap ∨ TupKeep sa.heap sb.heap →
          ¬ muts μa it → ¬ muts μa D → J.St (done.length + 1) sa.heap → DictIs w.params sa.heap D acc → TupKeep sa.heap sb.heap → J.St (done.length + 1) sb.heap ∧ ¬ muts μb it ∧ ¬ muts μb D ∧ DictIs w.params sb.heap D acc := by
        intro μa sa μb sb dd _ _ nn nd hh hl tkk
        obtain ⟨o, ho, r⟩ := J.obj _ _ hh
        obtain ⟨vs, c, e, il⟩ := hl
        refine ⟨J.frame _ _ _ hh fun o' e => dd.ext.keep _ _ e nn SI.nl (.inl rfl), fun m => ?_, fun m => ?_, vs, c, dd.ext.keep _ _ e nd SD.nl (.inl rfl), il.keep tkk⟩
        · rcases dd.ext.grow _ m with q | q
          · exact nn q
          · rw [ho] at q; cases q
        · rcases dd.ext.grow _ m with q | q
          · exact nd q
          · rw [e] at q; cases q
      have tk₂ := d₂.tupKeep GC d'.hr F''
      obtain ⟨it₂, nmi₂, nmd₂, hl₂⟩ := keepIt d₂ d'.hr (.inr tk₂) nmi nmd st' hl' tk₂
      refine (p₂ A _ s₂' R GC d₂.hr F₂).then_ fun kv μ₃ y s₃ p₃ d₃ i₃ => ?_
      obtain ⟨kx', rfl, p₃⟩ := p₃
      have tk₃ := d₂.hr.tupKeep d₃.ext
      obtain ⟨it₃, nmi₃, nmd₃, hl₃⟩ := keepIt d₃.toF d₂.hr (.inr tk₃) nmi₂ nmd₂ it₂ hl₂ tk₃
      have F₃ := F₂.keep d₂.hr d₃.ext
      have dall₃ := (d'.trans d₂).trans d₃.toF
      refine (p₃ A _ s₃ R GC d₃.hr F₃).then_ fun mv μ₄ z s₄ p₄ d₄ i₄ => ?_
      have tk₄ := d₃.hr.tupKeep d₄.ext
      obtain ⟨it₄, nmi₄, nmd₄, hl₄⟩ := keepIt d₄.toF d₃.hr (.inr tk₄) nmi₃ nmd₃ it₃ hl₃ tk₄
      have F₄ := F₃.keep d₃.hr d₄.ext
      have dall₄ := dall₃.trans d₄.toF
      obtain ⟨vs, c, e, il⟩ := id hl₄
      obtain ⟨kvs, dk, pk⟩ := hl₄.to (prog := prog) (w := w) hnd'
      cases i₃ with
      | str _ tt =>
        refine wpAny_dictSet_pairs (hsz := by rw [pk.length, sizeLine_eq]; lia) (k := kx') (by show Value.isStrOf kx' (.str kx' tt) = true; simp [Value.isStrOf]) dk fun h₅ hl₅ hs₅ => ?_
        have tk₅ : TupKeep s₄.heap h₅ := tupKeep_but e (by unfold dictOf; simp) hs₅.extBut
        refine ⟨r.length, by rw [← hk]; exact Nat.lt_succ_self _, done ++ [x], r, put kx' mv acc, σ₂, μ₄, by rw [ei]; simp, rfl, p₄, dall₄.touch SD nmd₄ hs₅.extBut tk₅, F₄.away hs₅.extBut SD.nl SD.nc tk₅,
          ?_, ⟨.of hl₅ ((pk.keep tk₅).put hnd' (i₄.keep tk₅)), put_nodup hnd'⟩, nmi₄, nmd₄⟩
        rw [List.length_append]
        exact J.frame _ _ _ it₄ fun o e => hs₅.extBut _ _ itD e
  refine codeAny_compStart_dict (loop _ rfl) ?_
  exact wpAny_mono (J.again A _ 0 (fun it' s' => it' = .ref it ∧ s' = _) (J.frame _ _ _ st₀ fun o e => old _ _ e) ⟨rfl, rfl⟩) (fun _ _ ⟨e1, e2⟩ => by subst e1 e2; exact loop _ rfl) fun zz zz e => e.elim

/-- a dict comprehension, given to a local name -/
theorem Ex.assign_dictcomp {kx vx t iter scope cpos x p pos} {post : MF → Sg → Mu → Prop} (hok : compOk scope sc = true) (hx : sc.names.lookup x = some .local) (hl : (p.line == cpos.line && !scope.names.any fun y => y.1 == x && (y.2 == .local || y.2 == .cell)) = true)
    (h : Itb prog w base n sc iter σ μ (fun cond items μ₁ => DLoop prog w base n (relab scope sc) t kx vx cond (fun acc μ₂ => (acc.map (·.1)).Nodup → ∀ D, μ₂ D = .none → (∀ b o, base.get? b = some o → b < D) → post .next (put x (.ref D) σ) (μ₂.set D (.dict acc))) items [] (capt scope sc σ) μ₁))
    (hs : ∀ env x, foldedSetIterable iter env x = pure x := by intro zz zz; rfl) : Ex prog w base n sc (.Assign [.Name x p] (.DictComp kx vx [⟨t, iter, [], 0⟩] scope cpos) pos) σ μ post := by
  intro A env s R G H F
  rw [exec_Assign_Name_used _ _ _ _ (swaps_localD G hx hl)]
  obtain ⟨hkind, hnames⟩ := names_of_ok hok
  refine wpAny_bind (wpAny_standAt (wpAny_bind ?_))
  show wpAny _ A (do let _ ← comprehension (.DictComp kx vx [⟨t, iter, [], 0⟩] scope cpos) scope env _ newDict false (eval iter env) (some (assign (.Name x p) env))) _ _ s
  refine wpAny_bind (wpAny_mono (wpAny_comprehension_free (use := some (assign (.Name x p) env)) (Q := fun zz s' => After w base sc env μ s post .next s') rfl (hs env) (closureFor_ok hok G) hkind hnames
    (wpAny_mono (h A env s R G H F) (fun xv s₁ h₁ => wpAny_mono h₁ (fun itv s₂ h₂ => ?_) fun zz zz e => e.elim) fun zz zz e => e.elim)) (fun zz s' hq => wpAny_pure (wpAny_pure hq)) fun zz zz e => e)
  have d0 : ∀ {μ' : Mu} {D}, ¬ muts μ' D → μ' D = none := fun {μ'} {D} nD => by
    cases q : μ' D with
    | none => rfl
    | some o => exact absurd ⟨D, o, q, .inl rfl⟩ nD
  obtain ⟨it, cond, items, μ₁, J, rfl, loop, d₁, st₀, new, nm₀⟩ := h₂
  refine comp_coreD hok J R G H F d₁ st₀ new nm₀ loop (fun D C acc μ' s' q c => ?_)
  obtain ⟨m, hn⟩ := c.ns
  obtain ⟨vs, k, e, il⟩ := c.dict
  have d := c.done.addObj H (o := .dict acc) rfl c.nD c.newD ⟨vs, k, e, il⟩
  have nC : ¬ muts (μ'.set D (.dict acc)) C := fun mm => by
    rcases muts_set_plain rfl mm with mm | mm
    · exact c.nC mm
    · exact c.ne mm.symm
  have lC : C ≠ env.locals := fun q => by
    obtain ⟨m, cm, ⟨_, _, _, ho, _⟩, _⟩ := F.at_
    rw [← q, c.newC] at ho; cases ho
  have cC : ∀ y, env.cells.lookup y ≠ some C := fun y q => by
    obtain ⟨m, cm, _, hc, _⟩ := F.at_
    obtain ⟨_, ho, _⟩ := hc y _ q; rw [c.newC] at ho; cases ho
  refine wpAny_assign_Name (store (lo := false) G d.hr (F.keep H d.ext) (.ref D) (.inl hx) fun s'' d' F' => ?_)
  obtain ⟨oC, esC, epC, hoC, rest⟩ := hn
  refine ⟨m, ⟨oC, esC, epC, d'.ext.keep C _ hoC nC lC (.inr cC), rest⟩, fun h' hs' => ?_⟩
  have dd := d.toF.trans d'
  have tk : TupKeep s''.heap h' := fun a items t => by
    have := tup_ne_dict t (m := m) (L := C) ⟨oC, esC, epC, d'.ext.keep C _ hoC nC lC (.inr cC), rest⟩
    obtain ⟨o, ho, r⟩ := t
    exact ⟨o, (hs'.2 a this).trans ho, r⟩
  refine ⟨.next, _, _, q c.nodup D (d0 c.nD) c.big, ?_, F'.away hs'.extBut lC cC tk, .next⟩
  exact dd.touch (t := s''.toks) ⟨c.newC, H.base_none c.newC, lC, cC⟩ nC hs'.extBut tk
end
end Mine
namespace Mine
set_option tactic.hygienic false

section
variable {w : World} {base : Heap} {prog : Program} {n : Nat} {sc : Scope} {σ : Sg} {μ : Mu} {K : Frag}

theorem sub_core {A : Around} {E : Value → Shared → Prop} {s : Shared} {env : Env} {value slice : Expr} {pos : Pos} {Q : Value → Shared → Prop}
    (h : wpAny (model prog w) A (eval value env) (fun o s₁ => wpAny (model prog w) A (eval slice env) (fun i s₂ => ItemOn (model prog w) A E o i Q s₂) E s₁) E s)
    (hs : ∀ o i, ∃ vs, subscripted slice false o i = operate vs (getItem o i)) : wpAny (model prog w) A (eval (.Subscript value slice pos) env) Q E s := by
  refine Subscript_ (wpAny_mono h (fun o s₁ h₁ => wpAny_mono h₁ (fun i s₂ h₂ => ?_) fun zz zz x => x) fun zz zz x => x)
  obtain ⟨T, id, hl, hT, hg⟩ := h₂
  obtain ⟨vs, hs⟩ := hs o i
  unfold subscriptTail
  refine wpAny_bind ?_
  rw [getitemInPython_of_ne hT.not_modules]
  refine wpAny_bind (wpAny_specialOf hT hl ?_)
  have fin : wpAny (model prog w) A (subscripted slice false o i) (fun r s₃ => wpAny (model prog w) A (letTemporaryGo value o r >>= fun zz => pure r) Q E s₃) E s₂ := by
    rw [hs]
    exact wpAny_operating (wpAny_mono hg (fun r s₃ h₃ => wpAny_bind (wpAny_letTemporaryGo (wpAny_pure h₃))) fun zz zz x => x)
  first
    | exact wpAny_pure (wpAny_bind fin)
    | exact wpAny_bind (wpAny_pure (wpAny_bind fin))
    | exact wpAny_bind fin

/-- an item, by what stands on both sides -/
noncomputable def ItemT (prog : Program) (w : World) (base : Heap) (n : Nat) (a b : MV) (μ : Mu) (post : MV → Mu → Prop) : Prop :=
  ∀ A s va vb, Room n A → HR w.params base μ s.heap → Is s.heap a va → Is s.heap b vb →
    ItemOn (model prog w) A (fun zz zz => False) va vb (ERes w base μ s post) s
theorem Ev.item {value slice pos} {post : MV → Mu → Prop} (h : Ev prog w base n sc value σ μ (fun a μ₁ => Ev prog w base n sc slice σ μ₁ (fun b μ₂ => ItemT prog w base n a b μ₂ post)))
    (hs : ∀ o i, ∃ vs, subscripted slice false o i = operate vs (getItem o i) := by intro _ _; exact ⟨_, rfl⟩) : Ev prog w base n sc (.Subscript value slice pos) σ μ post := by
  intro A env s R G H F
  refine sub_core ((h A env s R G H F).then_ fun a μ₁ va s₁ h₁ d₁ i₁ => (h₁.at R G H F d₁).then_ fun b μ₂ vb s₂ h₂ d₂ i₂ => ?_) hs
  obtain ⟨T, id, hl, hT, hg⟩ := h₂ A s₂ va vb R d₂.hr (d₂.is d₁.hr i₁) i₂
  exact ⟨T, id, hl, hT, wpAny_mono hg (fun v s' ⟨mv, μ', p, d, i⟩ => ⟨mv, μ', p, (d₁.trans d₂).trans d, i⟩) fun zz zz x => x⟩

theorem ItemT.list {l : Addr} {items : List MV} {k : Int} {m : MV} {post : MV → Mu → Prop} (hl : μ l = some (.list items)) (h0 : 0 ≤ k) (hk : k < 2 ^ 63) (hx : items[k.toNat]? = some m) (h : post m μ) :
    ItemT prog w base n (.ref l) (.int k) μ post := by
  intro A s va vb R H i j; cases i; cases j
  obtain ⟨vs, c, hlo, il⟩ := H.objs _ _ hl
  obtain ⟨v, hv, iv⟩ := il.at hx
  exact ⟨"list", _, list_getitem_lookup, (isList_of hlo).typeIs, wpAny_getItem_list (isList_of hlo) h0 hk (by rw [List.getElem?_toArray]; exact hv) ⟨m, μ, h, .refl H, iv⟩⟩
theorem ItemT.tup {items : List MV} {k : Int} {m : MV} {post : MV → Mu → Prop} (h0 : 0 ≤ k) (hk : k < 2 ^ 63) (hx : items[k.toNat]? = some m) (h : post m μ) :
    ItemT prog w base n (.tup items) (.int k) μ post := by
  intro A s va vb R H i j
  cases i with
  | tup ht il =>
    cases j
    obtain ⟨v, hv, iv⟩ := il.at hx
    have hlt : k.toNat < items.length := by
      rcases Nat.lt_or_ge k.toNat items.length with q | q
      · exact q
      · rw [List.getElem?_eq_none_iff.mpr q] at hx; cases hx
    exact ⟨"tuple", _, slot_tuple_getitem.lookup, ht.typeIs, getItem_tuple ht (by lia) hk (seqIndex_of h0 (by rw [List.size_toArray, il.length]; lia)) (by rw [List.getElem?_toArray]; exact hv) ⟨m, μ, h, .refl H, iv⟩⟩
theorem ItemT.str {x : Str} {k : Int} {post : MV → Mu → Prop} (hr : fitsSsize k = true) (hin : (Txt.charAt x k).isSome = true) (h : post (.str (Txt.item x k)) μ) :
    ItemT prog w base n (.str x) (.int k) μ post := by
  intro A s va vb R H i j; cases i; cases j
  exact SB.item hr hin ⟨_, _, h, .tok H, .str ..⟩

/-! slices -/
/-- a part of a slice -/
noncomputable def Part (prog : Program) (w : World) (base : Heap) (n : Nat) (sc : Scope) (o : Option Expr) (σ : Sg) (μ : Mu) (post : Option Int → Mu → Prop) : Prop :=
  match o with
  | none => post none μ
  | some e => Ev prog w base n sc e σ μ (fun v μ' => ∃ k, v = .int k ∧ post (some k) μ')
theorem Part.run {o : Option Expr} {post : Option Int → Mu → Prop} (h : Part prog w base n sc o σ μ post) {A env s} (R : Room n A) (G : GEnv base sc env) (H : HR w.params base μ s.heap) (F : FrR sc env σ μ s.heap) :
    wpAny (model prog w) A (evalPart o env) (fun v s' => ∃ k μ', post (k.map (·.1)) μ' ∧ Done w.params base μ s μ' s' ∧ v = partValue k) (fun zz zz => False) s := by
  unfold Part at h
  cases o with
  | none => exact wpAny_pure (a := Value.none) ⟨none, _, h, .refl H, rfl⟩
  | some e =>
    refine evalPart_some_step ((h A env s R G H F).then_ fun v μ' vv s' ⟨k, e, p⟩ d i => ?_)
    subst e
    cases i with
    | int _ t => exact ⟨some (k, t), μ', p, d, rfl⟩
theorem partIs (k : Option (Int × Tok)) : IsPart (partValue k) (k.map (·.1)) := by
  rcases k with _ | ⟨i, t⟩
  · exact .none
  · exact .int i t

/-- what a slice makes of what stands there -/
noncomputable def SliceT (prog : Program) (w : World) (base : Heap) (n : Nat) (a : MV) (l u st : Option Int) (μ : Mu) (post : MV → Mu → Prop) : Prop :=
  ∀ A s va (kl ku kst : Option (Int × Tok)), Room n A → HR w.params base μ s.heap → Is s.heap a va → l = kl.map (·.1) → u = ku.map (·.1) → st = kst.map (·.1) →
    ItemOn (model prog w) A (fun zz zz => False) va (.ref s.heap.objs.size) (ERes w base μ s post)
      { s with heap := s.heap.push { cls := .type "slice", data := .fields #[partValue kl, partValue ku, partValue kst] } }
theorem Ev.slice {value lower upper step p pos} {post : MV → Mu → Prop}
    (h : Ev prog w base n sc value σ μ (fun a μ₁ => Part prog w base n sc lower σ μ₁ (fun l μ₂ => Part prog w base n sc upper σ μ₂ (fun u μ₃ => Part prog w base n sc step σ μ₃ (fun st μ₄ => SliceT prog w base n a l u st μ₄ post)))))
    (hs : ∀ o i, ∃ vs, subscripted (.Slice lower upper step p) false o i = operate vs (getItem o i) := by intro _ _; exact ⟨_, rfl⟩) : Ev prog w base n sc (.Subscript value (.Slice lower upper step p) pos) σ μ post := by
  intro A env s R G H F
  refine sub_core ((h A env s R G H F).then_ fun a μ₁ va s₁ h₁ d₁ i₁ => wpAny_Slice ?_) hs
  have F₁ := F.keep H d₁.ext
  refine wpAny_mono (h₁.run R G d₁.hr F₁) (fun vl s₂ ⟨kl, μ₂, h₂, d₂, el⟩ => ?_) fun zz zz e => e
  have F₂ := F₁.keep d₁.hr d₂.ext
  refine wpAny_mono (h₂.run R G d₂.hr F₂) (fun vu s₃ ⟨ku, μ₃, h₃, d₃, eu⟩ => ?_) fun zz zz e => e
  have F₃ := F₂.keep d₂.hr d₃.ext
  refine wpAny_mono (h₃.run R G d₃.hr F₃) (fun vst s₄ ⟨kst, μ₄, h₄, d₄, es⟩ => ?_) fun zz zz e => e
  subst el eu es
  have d := (d₂.trans d₃).trans d₄
  obtain ⟨T, id, hl, hT, hg⟩ := h₄ A s₄ va kl ku kst R d₄.hr (d.is d₁.hr i₁) rfl rfl rfl
  exact ⟨T, id, hl, hT, wpAny_mono hg (fun v s' ⟨mv, μ', p, d', i⟩ => ⟨mv, μ', p, (d₁.trans d).trans d', i⟩) fun zz zz x => x⟩

theorem SliceT.str {x : Str} {l u : Option Int} {post : MV → Mu → Prop} (hx : x.length ≤ 100000) (h : post (.str (Txt.slice x l u)) μ) : SliceT prog w base n (.str x) l u none μ post := by
  intro A s va kl ku kst R H i el eu es
  cases i
  cases kst with
  | some q => cases es
  | none =>
    subst el eu
    exact ⟨"str", _, F.slot_str_getitem.lookup, typeIs_str _ _ _, wpAny_getItem_str_slice (l := kl) (u := ku) (st := none) ⟨_, Heap.get?_push_size _ rfl, rfl, rfl⟩ rfl
      (post_val_or_str ⟨Nat.le_trans (Txt.slice_le x _ _) (by rw [sizeLine_eq]; lia), fun t' k => ⟨_, _, h, ⟨H.push, .push, rfl, rfl⟩, .str ..⟩⟩)⟩

/-- a list that stands there: of the table, or of the start -/
noncomputable def LView (w : World) (base : Heap) (a : MV) (μ : Mu) (items : List MV) : Prop :=
  ∀ h va, HR w.params base μ h → Is h a va → ∃ l vs, va = .ref l ∧ h.IsList l vs.toArray ∧ IsL h items vs
theorem LView.mu {l : Addr} {items : List MV} (hl : μ l = some (.list items)) : LView w base (.ref l) μ items := by
  intro h va H i; cases i
  obtain ⟨vs, c, hlo, il⟩ := H.objs _ _ hl
  exact ⟨_, vs, rfl, isList_of hlo, il⟩
theorem IsList.stays {h h' : Heap} {a : Addr} {items : Array Value} (x : h.IsList a items) (k : ∀ b o, h.get? b = some o → h'.get? b = some o) : h'.IsList a items :=
  let ⟨o, ho, r⟩ := x; ⟨o, k _ _ ho, r⟩
set_option tactic.hygienic true in
theorem intsL {h : Heap} : ∀ {vs : List Value} {ns : List Int}, IntsAre vs ns → IsL h (ns.map .int) vs := by
  intro vs ns x
  induction x with
  | nil => exact .nil
  | cons => rename_i ih; exact .cons (.int ..) ih
theorem LView.frozen {a : Addr} {vs : List Value} {ns : List Int} (hl : base.IsList a vs.toArray) (hi : IntsAre vs ns) : LView w base (.raw (.ref a)) μ (ns.map .int) := by
  intro h va H i; cases i
  exact ⟨a, vs, rfl, IsList.stays hl H.stays, intsL hi⟩

/-- what a slice takes of a list -/
structure Takes (l u st : Option Int) (items got : List MV) : Prop where
  nz : st ≠ some 0
  pick : ∀ (h : Heap) (vs : List Value), IsL h items vs → ∃ ws, slicePick vs.toArray l u st = ws.toArray ∧ IsL h got ws

theorem SliceT.list {a : MV} {items got : List MV} {l u st : Option Int} {post : MV → Mu → Prop} (V : LView w base a μ items) (T : Takes l u st items got) (hsz : items.length ≤ 100000)
    (h : ∀ D, μ D = .none → post (.ref D) (μ.set D (.list got))) : SliceT prog w base n a l u st μ post := by
  intro A s va kl ku kst R H i el eu es
  obtain ⟨lo, vs, rfl, hl, il⟩ := V s.heap va H i
  obtain ⟨ws, e, iw⟩ := T.pick s.heap vs il
  subst el eu es
  refine ⟨"list", _, list_getitem_lookup, (hl.push _).typeIs, wpAny_getItem_list_slice (hl.push _) (Heap.IsSliceOf.new ..) (partIs kl) (partIs ku) (partIs kst) T.nz ?_ (by rw [List.size_toArray, il.length, sizeLine_eq]; exact Nat.le_trans hsz (by decide))⟩
  have kp : ∀ b o, s.heap.get? b = some o → ((s.heap.push { cls := .type "slice", data := .fields #[partValue kl, partValue ku, partValue kst] }).push { cls := .type "list", data := .seq (slicePick vs.toArray (kl.map (·.1)) (ku.map (·.1)) (kst.map (·.1))) }).get? b = some o := fun b o e =>
    Heap.get?_push_of_some _ (Heap.get?_push_of_some _ e)
  have nn : s.heap.get? (s.heap.push { cls := .type "slice", data := .fields #[partValue kl, partValue ku, partValue kst] }).objs.size = none := by
    cases q : s.heap.get? (s.heap.push { cls := .type "slice", data := .fields #[partValue kl, partValue ku, partValue kst] }).objs.size with
    | none => rfl
    | some o => have := Heap.lt_size q; rw [Heap.size_push] at this; exact absurd this (Nat.not_lt.mpr (Nat.le_succ _))
  refine ⟨.ref _, _, h _ (H.nomu nn), Done.newList (t := s.toks) H nn kp ⟨ws, 0, ?_, iw.keep (tupKeep_of kp)⟩, .ref _⟩
  rw [e]; exact Heap.get?_push_size _ rfl
theorem IsL.take {h : Heap} : ∀ {a : List MV} {x : List Value}, IsL h a x → ∀ k, IsL h (a.take k) (x.take k)
  | _, _, .nil, k => by simp; exact .nil
  | _, _, .cons _ _, 0 => .nil
  | _, _, .cons i r, k + 1 => .cons i (r.take k)
theorem IsL.drop {h : Heap} : ∀ {a : List MV} {x : List Value}, IsL h a x → ∀ k, IsL h (a.drop k) (x.drop k)
  | _, _, .nil, k => by simp; exact .nil
  | _, _, .cons i r, 0 => .cons i r
  | _, _, .cons i r, k + 1 => r.drop k
theorem IsL.reverse {h : Heap} : ∀ {a : List MV} {x : List Value}, IsL h a x → IsL h a.reverse x.reverse
  | _, _, .nil => .nil
  | _, _, .cons i r => by rw [List.reverse_cons, List.reverse_cons]; exact r.reverse.append (.cons i .nil)
theorem Takes.all {items : List MV} : Takes none none none items items :=
  ⟨by simp, fun h vs i => ⟨vs, slicePick_all _, i⟩⟩
theorem Takes.upto {items : List MV} {k : Nat} : Takes none (some (k : Int)) none items (items.take k) := by
  refine ⟨by simp, fun h vs i => ⟨vs.take k, ?_, i.take k⟩⟩
  by_cases q : k ≤ vs.length
  · exact slicePick_upto vs.toArray k (by simpa using q)
  · have e : slicePick vs.toArray none (some (k : Int)) none = slicePick vs.toArray none none none := by
      unfold slicePick sliceBounds
      simp only [Option.getD_none, List.size_toArray]
      have : ¬ ((k : Int) < 0) := by lia
      simp only [if_neg this, show (1 : Int) > 0 by decide, if_true]
      have e2 : max 0 (min (k : Int) (vs.length : Int)) = (vs.length : Int) := by lia
      rw [e2]
    rw [e, slicePick_all, List.take_of_length_le (by lia)]
theorem Takes.from {items : List MV} {k : Nat} (hk : k ≤ items.length) : Takes (some (k : Int)) none none items (items.drop k) :=
  ⟨by simp, fun h vs i => ⟨vs.drop k, slicePick_from vs.toArray k (by rw [List.size_toArray, i.length]; exact hk), i.drop k⟩⟩
theorem Takes.rev {items : List MV} : Takes none none (some (-1)) items items.reverse := by
  refine ⟨by simp, fun h vs i => ⟨vs.reverse, ?_, i.reverse⟩⟩
  unfold slicePick sliceBounds sliceRange
  simp only [Option.getD_some, List.size_toArray, show ¬ ((-1 : Int) > 0) by decide, if_false]
  congr 1
  have hc : (if (vs.length : Int) - 1 > -1 then ((vs.length : Int) - 1 - -1 - -1 - 1) / (- -1) else 0).toNat = vs.length := by
    split
    · simp
    · lia
  rw [hc]
  apply List.ext_getElem?
  intro j
  rw [List.filterMap_map]
  have key : ∀ m, m ≤ vs.length → ((List.range m).filterMap (((fun x => vs.toArray[x]?) ∘ fun (k : Nat) => ((vs.length : Int) - 1 + -1 * (k : Int)).toNat))) = vs.reverse.take m := by
    intro m
    induction m with
    | zero => intro _; rfl
    | succ m ih =>
      intro hm
      rw [List.range_succ, List.filterMap_append, ih (by lia), List.take_add_one]
      congr 1
      have e : ((vs.length : Int) - 1 + -1 * (m : Int)).toNat = vs.length - 1 - m := by lia
      simp only [List.filterMap_cons, List.filterMap_nil, Function.comp, e]
      rw [List.getElem?_toArray, List.getElem?_reverse (by lia)]
      cases vs[vs.length - 1 - m]? <;> rfl
  rw [key _ (Nat.le_refl _), List.take_of_length_le (by simp)]
end
end Mine
namespace Mine
set_option tactic.hygienic false

section
variable {w : World} {base : Heap} {prog : Program} {n : Nat} {sc : Scope} {σ : Sg} {μ : Mu} {K : Frag}

theorem muts_list {l : Addr} {items items' : List MV} (hl : μ l = some (.list items)) {b : Addr} (m : muts (Mu.set μ l (.list items')) b) : muts μ b := by
  rcases muts_set_list m with m | rfl
  · exact m
  · exact ⟨_, _, hl, .inl rfl⟩
/-- a list of the table is written -/
theorem HR.setList {P : Params} {h h' : Heap} {l : Addr} {items items' : List MV} (H : HR P base μ h) (hl : μ l = some (.list items)) (hs : Heap.SameBut l h h') (ho : ListIs h' l items') (tk : TupKeep h h') : HR P base (μ.set l (.list items')) h' := by
  have hb := H.fresh l ⟨l, _, hl, .inl rfl⟩
  refine ⟨fun b x e => (hs.2 b (fun q => by subst q; rw [hb] at e; cases e)).trans (H.stays b x e), fun a x e => ?_, fun b m => H.fresh b (muts_list hl m), fun b C d fs q => ?_⟩
  · by_cases q : a = l
    · subst q; rw [Mu.set_self] at e; cases e; exact ho
    · rw [Mu.set_ne q] at e
      have z := H.objs a x e
      cases x with
      | list its => obtain ⟨vs, c, hlo, il⟩ := z; exact ⟨vs, c, (hs.2 a q).trans hlo, il.keep tk⟩
      | inst C d fs =>
        obtain ⟨z, es, n, hd, r⟩ := z
        have qd : d ≠ l := by rintro rfl; have := (H.apart _ _ _ _ e).1; rw [hl] at this; cases this
        exact ⟨(hs.2 a q).trans z, es, n, (hs.2 d qd).trans hd, r.keep tk⟩
      | dict fs => obtain ⟨es, n, hd, r⟩ := z; exact ⟨es, n, (hs.2 a q).trans hd, r.keep tk⟩
  · by_cases hb : b = l
    · subst hb; rw [Mu.set_self] at q; cases q
    · rw [Mu.set_ne hb] at q
      obtain ⟨q1, q2⟩ := H.apart b C d fs q
      refine ⟨?_, fun a' C' fs' z => ?_⟩
      · by_cases hd : d = l
        · subst hd; rw [hl] at q1; cases q1
        · rw [Mu.set_ne hd]; exact q1
      · by_cases ha : a' = l
        · subst ha; rw [Mu.set_self] at z; cases z
        · rw [Mu.set_ne ha] at z; exact q2 _ _ _ z
theorem Done.setList {P : Params} {s : Shared} {h' : Heap} {t : Nat} {l : Addr} {items items' : List MV} (H : HR P base μ s.heap) (hl : μ l = some (.list items)) (hs : Heap.SameBut l s.heap h') (ho : ListIs h' l items') (tk : TupKeep s.heap h') :
    Done P base μ s (μ.set l (.list items')) { s with heap := h', toks := t } :=
  ⟨H.setList hl hs ho tk, ⟨fun b o e nn => (hs.2 b (fun q => nn (by rw [q]; exact ⟨_, _, hl, .inl rfl⟩))).trans e, fun b m => .inl (muts_list hl m), fun b o e => by
    by_cases q : b = l
    · subst q; obtain ⟨vs, c, e', _⟩ := ho; exact ⟨_, e'⟩
    · exact ⟨o, (hs.2 b q).trans e⟩⟩, rfl, rfl⟩
theorem muts_inst {x C d : Addr} {fs fs' : Sg} (hx : μ x = some (.inst C d fs)) {b : Addr} (m : muts (Mu.set μ x (.inst C d fs')) b) : muts μ b := by
  obtain ⟨c, o, hc, q⟩ := m
  by_cases e : c = x
  · subst e
    rw [Mu.set_self] at hc; cases hc
    rcases q with q | ⟨C', fs'', q⟩
    · exact ⟨_, _, hx, .inl q⟩
    · cases q; exact ⟨_, _, hx, .inr ⟨_, _, rfl⟩⟩
  · rw [Mu.set_ne e] at hc; exact ⟨c, o, hc, q⟩
/-- a field of an instance is written -/
theorem Done.setInst {P : Params} {s : Shared} {h' : Heap} {t : Nat} {x C d : Addr} {fs fs' : Sg} (H : HR P base μ s.heap) (hx : μ x = some (.inst C d fs)) (hs : Heap.SameBut d s.heap h') (ho : DictIs P h' d fs') (tk : TupKeep s.heap h') :
    Done P base μ s (μ.set x (.inst C d fs')) { s with heap := h', toks := t } := by
  obtain ⟨hd0, hap⟩ := H.apart _ _ _ _ hx
  have hb := H.fresh d ⟨x, _, hx, .inr ⟨_, _, rfl⟩⟩
  have xd : x ≠ d := by rintro rfl; rw [hx] at hd0; cases hd0
  refine ⟨⟨fun b o e => (hs.2 b (fun q => by subst q; rw [hb] at e; cases e)).trans (H.stays b o e), fun a o e => ?_, fun b m => H.fresh b (muts_inst hx m), fun b C' d' fs'' q => ?_⟩,
    ⟨fun b o e nn => (hs.2 b (fun q => nn (by rw [q]; exact ⟨_, _, hx, .inr ⟨_, _, rfl⟩⟩))).trans e, fun b m => .inl (muts_inst hx m), fun b o e => by
      by_cases q : b = d
      · subst q; obtain ⟨es, n, e', _⟩ := ho; exact ⟨_, e'⟩
      · exact ⟨o, (hs.2 b q).trans e⟩⟩, rfl, rfl⟩
  · by_cases q : a = x
    · subst q; rw [Mu.set_self] at e; cases e
      exact ⟨(hs.2 a xd).trans (H.objs _ _ hx).1, ho⟩
    · rw [Mu.set_ne q] at e
      have ad : a ≠ d := by rintro rfl; rw [hd0] at e; cases e
      have z := H.objs a o e
      cases o with
      | list its => obtain ⟨vs, c, hlo, il⟩ := z; exact ⟨vs, c, (hs.2 a ad).trans hlo, il.keep tk⟩
      | inst C' d' fs'' =>
        obtain ⟨z, es, n, hd, r⟩ := z
        have qd : d' ≠ d := by rintro rfl; exact q (hap _ _ _ e)
        exact ⟨(hs.2 a ad).trans z, es, n, (hs.2 d' qd).trans hd, r.keep tk⟩
      | dict fs => obtain ⟨es, n, hd, r⟩ := z; exact ⟨es, n, (hs.2 a ad).trans hd, r.keep tk⟩
  · by_cases hbx : b = x
    · subst hbx; rw [Mu.set_self] at q; cases q
      refine ⟨by rw [Mu.set_ne (Ne.symm xd)]; exact hd0, fun a' C' fs' z => ?_⟩
      by_cases ha : a' = b
      · exact ha
      · rw [Mu.set_ne ha] at z; exact hap _ _ _ z
    · rw [Mu.set_ne hbx] at q
      obtain ⟨q1, q2⟩ := H.apart b _ _ _ q
      refine ⟨?_, fun a' C'' fs''' z => ?_⟩
      · by_cases hd : d' = x
        · subst hd; rw [hx] at q1; cases q1
        · rw [Mu.set_ne hd]; exact q1
      · by_cases ha : a' = x
        · subst ha; rw [Mu.set_self] at z; cases z; exact absurd (hap _ _ _ q) hbx
        · rw [Mu.set_ne ha] at z; exact q2 _ _ _ z

theorem mapSeq_listOf (f : Array Value → Array Value) (its : Array Value) (c : Nat) : ∃ c', Obj.mapSeq f (W.listOf its c) = W.listOf (f its) c' := ⟨_, rfl⟩
theorem listWrite {h : Heap} {l : Addr} {f : Array Value → Array Value} {its : Array Value} {c : Nat} (ho : h.get? l = some (W.listOf its c)) :
    (∃ c', (h.update l (Obj.mapSeq f)).get? l = some (W.listOf (f its) c')) ∧ Heap.SameBut l h (h.update l (Obj.mapSeq f)) ∧ TupKeep h (h.update l (Obj.mapSeq f)) := by
  obtain ⟨c', e⟩ := mapSeq_listOf f its c
  refine ⟨⟨c', by rw [Heap.get?_update_self _ ho (by rw [e]; rfl), e]⟩, Heap.SameBut.update .., ?_⟩
  exact tupKeep_but ho (by unfold W.listOf; simp) (Heap.SameBut.update ..).extBut

/-! statements that assign -/
theorem Ex.assign1 {t value pos} {post : MF → Sg → Mu → Prop} (h : Ev prog w base n sc value σ μ (fun v μ₁ => Asg false prog w base n sc t v σ μ₁ (fun σ₂ μ₂ => post .next σ₂ μ₂)))
    (hs : ∀ env, swapsWithSole [t] value pos.line env = pure false := by intro zz; rfl) (hw : ∀ env, swappedStores [t] value env = pure none := by intro zz; rfl)
    (he : ∀ env, (assignEach [t] env).map (·.2) = [assign t env] := by intro zz; rfl) : Ex prog w base n sc (.Assign [t] value pos) σ μ post := by
  intro A env s R G H F
  refine wpAny_Assign_stores ((h A env s R G H F).then_ fun v μ₁ vv s₁ h₁ d₁ i₁ => ?_) (hs env) (hw env)
  rw [he]
  refine wpAny_mono (h₁ A env s₁ vv R G d₁.hr (F.keep H d₁.ext) i₁) (fun _ s₂ ⟨σ₂, μ₂, p, d, F₂⟩ => ⟨_, _, _, p, d₁.toF.trans d, F₂, .next⟩) fun zz zz e => e
theorem Ex.assign3 {t₁ t₂ t₃ value pos} {post : MF → Sg → Mu → Prop} (h : Ev prog w base n sc value σ μ (fun v μ₁ => Asg false prog w base n sc t₁ v σ μ₁ (fun σ₂ μ₂ => Asg false prog w base n sc t₂ v σ₂ μ₂ (fun σ₃ μ₃ => Asg false prog w base n sc t₃ v σ₃ μ₃ (fun σ₄ μ₄ => post .next σ₄ μ₄)))))
    (hw : ∀ env, swappedStores [t₁, t₂, t₃] value env = pure none := by intro zz; rfl)
    (he : ∀ env, (assignEach [t₁, t₂, t₃] env).map (·.2) = [assign t₁ env, assign t₂ env, assign t₃ env] := by intro zz; rfl) : Ex prog w base n sc (.Assign [t₁, t₂, t₃] value pos) σ μ post := by
  intro A env s R G H F
  refine wpAny_Assign_three ((h A env s R G H F).then_ fun v μ₁ vv s₁ h₁ d₁ i₁ => ?_) (he env) (hw env)
  have F₁ := F.keep H d₁.ext
  refine wpAny_mono (h₁ A env s₁ vv R G d₁.hr F₁ i₁) (fun _ s₂ ⟨σ₂, μ₂, p, d, F₂⟩ => ?_) fun zz zz e => e
  have tk₂ := d.tupKeep G d₁.hr F₁
  refine wpAny_mono (p A env s₂ vv R G d.hr F₂ (i₁.keep tk₂)) (fun _ s₃ ⟨σ₃, μ₃, p₃, d₃, F₃⟩ => ?_) fun zz zz e => e
  have tk₃ := d₃.tupKeep G d.hr F₂
  exact wpAny_mono (p₃ A env s₃ vv R G d₃.hr F₃ ((i₁.keep tk₂).keep tk₃)) (fun _ s₄ ⟨σ₄, μ₄, p₄, d₄, F₄⟩ => ⟨_, _, _, p₄, ((d₁.toF.trans d).trans d₃).trans d₄, F₄, .next⟩) fun zz zz e => e

/-- two local names, two values: the stores are exchanged -/
theorem Ex.assign_pair {x y px py k tp e₁ e₂ ke pe pos} {post : MF → Sg → Mu → Prop} (hx : sc.names.lookup x = some .local) (hy : sc.names.lookup y = some .local)
    (h : Evs prog w base n sc [e₁, e₂] σ μ (fun ms μ₁ => ∃ a b, ms = [a, b] ∧ post .next (put x a (put y b σ)) μ₁))
    (hw : ∀ env, env.blockKind = .function → env.kindOf x = some .local → env.kindOf y = some .local → swappedStores [.Tuple [.Name x px, .Name y py] k tp] (.Tuple [e₁, e₂] ke pe) env = pure (some [x, y])) :
    Ex prog w base n sc (.Assign [.Tuple [.Name x px, .Name y py] k tp] (.Tuple [e₁, e₂] ke pe) pos) σ μ post := by
  intro A env s R G H F
  have kx : env.kindOf x = some .local := by unfold Env.kindOf; rw [G.sc_]; exact hx
  have ky : env.kindOf y = some .local := by unfold Env.kindOf; rw [G.sc_]; exact hy
  have bk : env.blockKind = .function := by unfold Env.blockKind; rw [G.kind]; rfl
  have hv : Ev prog w base n sc (.Tuple [e₁, e₂] ke pe) σ μ (fun v μ₁ => ∃ a b, v = .tup [a, b] ∧ post .next (put x a (put y b σ)) μ₁) :=
    Ev.tuple fun A env s p r g H F => wpAny_mono (h A env s p r g H F) (fun _ _ ⟨ms, μ₁, ⟨a, b, e, p⟩, d, i⟩ => ⟨ms, μ₁, ⟨by subst e; simp, a, b, by subst e; rfl, p⟩, d, i⟩) fun zz zz e => e
  refine Assign_Tuple_swapped (names := [x, y]) ((hv A env s R G H F).then_ fun v μ₁ vv s₁ ⟨a, b, e, p⟩ d₁ i₁ => ?_) rfl (hw env bk kx ky)
  subst e
  have F₁ := F.keep H d₁.ext
  cases i₁ with
  | tup ht il =>
    cases il with
    | cons ia il =>
      cases il with
      | cons ib il =>
        cases il
        refine unpackItems_tuple (items := #[_, _]) R.1 ht fun h' he => ?_
        have kk := extBut_keeps he
        have d : Done w.params base μ₁ s₁ μ₁ { s₁ with heap := h', toks := s₁.toks } := .keeps d₁.hr kk
        show wpAny _ _ (assignInOrder [fun v => bindName env y v, fun v => bindName env x v] [_, _]) _ _ _
        show wpAny _ _ (holding _ (bindName env y _) >>= fun zz => (holding _ (bindName env x _) >>= fun zz => pure ())) _ _ _
        refine wpAny_bind (wpAny_holding (wpAny_bindName (store (lo := false) G d.hr (F₁.keeps kk) (ib.keep (tupKeep_of kk)) (.inl hy) fun s₂ d₂ F₂ => ?_)))
        have tk₂ := d₂.tupKeep G d.hr (F₁.keeps kk)
        refine wpAny_bind (wpAny_holding (wpAny_bindName (store (lo := false) G d₂.hr F₂ ((ia.keep (tupKeep_of kk)).keep tk₂) (.inl hx) fun s₃ d₃ F₃ => ?_)))
        exact wpAny_pure ⟨_, _, _, p, ((d₁.toF.trans d.toF).trans d₂).trans d₃, F₃, .next⟩

/-! targets -/
/-- a field -/
noncomputable def setIn (K : Frag) (C : Addr) (name : Str) : Bool := (findIn K (.ref C) "__setattr__" == some (some (.builtin "object.__setattr__"))) && plainOver K C && (takerIn K C name == some none) && hasDictIn K C
theorem putL_ents {P : Params} {h : Heap} {name : Str} {t : Tok} {mv : MV} {v : Value} (i : Is h mv v) : ∀ {fs : Sg} {es : List DictEntry}, EntsIs P h fs es → EntsIs P h (put name mv fs) (putL name (PyData.keyHash P name) (.str name t) v es)
  | _, _, .nil => .cons ⟨⟨t, rfl⟩, rfl, i⟩ .nil
  | _, _, .cons (f := f) (e := e) E r => by
    unfold putL put
    obtain ⟨x, u⟩ := f
    have q := isStr_key E name
    by_cases z : x = name
    · subst z
      rw [if_pos (by simp), if_pos (by rw [q]; simp)]
      exact .cons ⟨E.key, E.hash, i⟩ r
    · rw [if_neg (by simpa using Ne.symm z), if_neg (by rw [q]; simpa using z)]
      exact .cons E (putL_ents i r)
theorem EntsIs.noRef {P : Params} {h : Heap} : ∀ {fs : Sg} {es : List DictEntry}, EntsIs P h fs es → es.any (·.refKey) = false
  | _, _, .nil => rfl
  | _, _, .cons E r => by rw [List.any_cons, refKey_no E, r.noRef]; rfl
theorem EntsIs.length {P : Params} {h : Heap} : ∀ {fs : Sg} {es : List DictEntry}, EntsIs P h fs es → es.length = fs.length
  | _, _, .nil => rfl
  | _, _, .cons _ r => congrArg (· + 1) r.length
theorem osa_own {A : Around} {s : Shared} {x C d : Addr} {fs : Sg} {name : Str} {tk : Tok} {mv : MV} {v : Value} {R : Result → Shared → Prop} (W : WF w K base) (H : HR w.params base μ s.heap) (hx : μ x = some (.inst C d fs)) (hk : setIn K C name = true) (hsz : fs.length ≤ 900)
    (i : Is s.heap mv v) (hQ : ∀ s', Done w.params base μ s (μ.set x (.inst C d (put name mv fs))) s' → R (.ok (.ret .none)) s') : codeAny (model prog w) A (.call (.builtin "object.__setattr__") ⟨[.ref x, .str name tk, v], []⟩) R s := by
  unfold setIn at hk
  obtain ⟨hk, hh⟩ := Bool.and_eq_true_iff.mp hk
  obtain ⟨hk, ht⟩ := Bool.and_eq_true_iff.mp hk
  obtain ⟨hk, hp⟩ := Bool.and_eq_true_iff.mp hk
  have X := W.kin.keeps H.stays
  obtain ⟨es, k, I, E⟩ := instAt H hx
  refine osa_open (od := some (dictOf es k)) X I hp (beq_iff_eq.mp ht) fun b => ?_
  obtain ⟨cd, hc, hd'⟩ := any_some hh
  obtain ⟨hx', hcl, hn, D⟩ := I
  have D : s.heap.get? d = some (dictOf es k) := D
  refine wpAny_bind (wpAny_pure (wpAny_bind (wpAny_bind (wpAny_loadPart hx' (wpAny_bind ((looks_clsIn X hc).here ?_))))))
  rw [hd']
  refine wpAny_pure (a := some d) (wpAny_bind (wpAny_pure (wpAny_bind ?_)))
  unfold nsSet
  refine wpAny_bind (wpAny_bind (wpAny_askSetting (wpAny_pure (wpAny_bind (wpAny_mkText (wpAny_bind (wpAny_loadPart D ?_)))))))
  have c : (!es.toArray.any (·.key.isStr name) && es.toArray.any (·.refKey)) = false := by
    have : es.any (·.refKey) = false := E.noRef
    rw [List.any_toArray, List.any_toArray, this, Bool.and_false]
  have put_eq : ∀ t, Obj.putName name (PyData.keyHash w.params name) (.str name t) v (dictOf es k) = dictOf (putL name (PyData.keyHash w.params name) (.str name t) v es) (putN name es k) := fun t => putName_dict ..
  have new : (s.heap.update d (Obj.putName name (PyData.keyHash w.params name) (.str name s.toks) v)).get? d = some (dictOf (putL name (PyData.keyHash w.params name) (.str name s.toks) v es) (putN name es k)) := by
    rw [Heap.get?_update_self _ D (by rw [put_eq]; rfl), put_eq]
  have tk : TupKeep s.heap (s.heap.update d (Obj.putName name (PyData.keyHash w.params name) (.str name s.toks) v)) := tupKeep_but D (by unfold dictOf; simp) (Heap.SameBut.update ..).extBut
  unfold dictOf
  dsimp only
  rw [aRefKeyMayBeTheName_at, c]
  refine wpAny_updatePart D ?_
  refine wpAny_bind (wpAny_lookBehind new (pastItsLine_dict ?_) ?_)
  · have e1 := (putL_ents (name := name) (t := s.toks) i E).length
    have e2 : ∀ fs : Sg, (put name mv fs).length ≤ fs.length + 1 := by
      intro fs
      induction fs with
      | nil => exact Nat.le_refl _
      | cons p r ih => obtain ⟨y, u⟩ := p; unfold put; split <;> simp only [List.length_cons] at * <;> lia
    have := e2 fs
    rw [List.size_toArray, sizeLine_eq]; lia
  · exact wpAny_pure (hQ _ (Done.setInst H hx (Heap.SameBut.update ..) ⟨_, _, new, putL_ents (i.keep tk) (E.keep tk)⟩ tk))
theorem setAttr_own {A : Around} {s : Shared} {x C d : Addr} {fs : Sg} {name : Str} {mv : MV} {v : Value} {Q : Unit → Shared → Prop} (W : WF w K base) (H : HR w.params base μ s.heap) (hx : μ x = some (.inst C d fs)) (hk : setIn K C name = true) (hsz : fs.length ≤ 900)
    (i : Is s.heap mv v) (hQ : ∀ s', Done w.params base μ s (μ.set x (.inst C d (put name mv fs))) s' → Q () s') : wpAny (model prog w) A (setAttr (.ref x) name v) Q (fun zz zz => False) s := by
  obtain ⟨es, k, I, E⟩ := instAt H hx
  have hk' := hk
  unfold setIn at hk'
  obtain ⟨hk', _⟩ := Bool.and_eq_true_iff.mp hk'
  obtain ⟨hk', _⟩ := Bool.and_eq_true_iff.mp hk'
  obtain ⟨hk', _⟩ := Bool.and_eq_true_iff.mp hk'
  exact set_plain (W.kin.keeps H.stays) I (beq_iff_eq.mp hk') (osa_own (s := { s with toks := s.toks + 1 }) W H hx hk hsz i fun s' d => hQ s' ⟨d.hr, d.ext, d.gens, d.os⟩)
end
end Mine
namespace Mine
set_option tactic.hygienic false

section
variable {w : World} {base : Heap} {prog : Program} {n : Nat} {sc : Scope} {σ : Sg} {μ : Mu} {K : Frag}

/-- a tree that comes to an end, told against μ, s -/
noncomputable def UnT (prog : Program) (w : World) (base : Heap) (A : Around) (t : Sem Unit) (μ : Mu) (s : Shared) (post : Mu → Prop) : Prop :=
  wpAny (model prog w) A t (fun zz s' => ∃ μ', post μ' ∧ Done w.params base μ s μ' s') (fun zz zz => False) s

inductive AttrP (K : Frag) (attr : Str) (v : MV) (σ : Sg) (post : Sg → Mu → Prop) (ov : MV) (μ₁ : Mu) : Prop
  | mk (x C d : Addr) (fs : Sg) : ov = .ref x → μ₁ x = some (.inst C d fs) → setIn K C attr = true → fs.length ≤ 900 → post σ (μ₁.set x (.inst C d (put attr v fs))) → AttrP K attr v σ post ov μ₁
theorem Asg.attr {lo : Bool} {o attr pos v} {post : Sg → Mu → Prop} (W : WF w K base)
    (h : Ev prog w base n sc o σ μ (AttrP K attr v σ post)) :
    Asg lo prog w base n sc (.Attribute o attr pos) v σ μ post := by
  intro A env s vv R G H F i
  rw [assign_Attribute]
  refine wpAny_bind (wpAny_holding ((h A env s R G H F).then_ fun ov μ₁ vo s₁ ⟨x, C, d, fs, e, hx, hk, hz, p⟩ d₁ i₁ => ?_))
  subst e; cases i₁
  refine wpAny_bind (wpAny_standAt (wpAny_bind (wpAny_holding (setAttr_own W d₁.hr hx hk hz (d₁.is H i) fun s' d' => ?_))))
  exact wpAny_releaseD ⟨_, _, p, (d₁.trans d').toF, F.keep H (d₁.trans d').ext⟩

/-- what a target o[i] takes -/
noncomputable def SetT (prog : Program) (w : World) (base : Heap) (n : Nat) (o i v : MV) (μ : Mu) (post : Mu → Prop) : Prop :=
  ∀ A s vo vi vv, Room n A → HR w.params base μ s.heap → Is s.heap o vo → Is s.heap i vi → Is s.heap v vv → UnT prog w base A (setItem vo vi vv) μ s post
theorem Asg.item {lo : Bool} {o i pos v} {post : Sg → Mu → Prop} (h : Ev prog w base n sc o σ μ (fun ov μ₁ => Ev prog w base n sc i σ μ₁ (fun iv μ₂ => SetT prog w base n ov iv v μ₂ (fun μ₃ => post σ μ₃)))) :
    Asg lo prog w base n sc (.Subscript o i pos) v σ μ post := by
  intro A env s vv R G H F j
  rw [assign_Subscript]
  refine wpAny_bind (wpAny_holding ((h A env s R G H F).then_ fun ov μ₁ vo s₁ h₁ d₁ i₁ => wpAny_bind (wpAny_holding ((h₁.at R G H F d₁).then_ fun iv μ₂ vi s₂ h₂ d₂ i₂ => wpAny_bind (wpAny_standAt ?_)))))
  have d := d₁.trans d₂
  refine wpAny_bind (wpAny_holding (wpAny_mono (h₂ A s₂ vo vi vv R d₂.hr (d₂.is d₁.hr i₁) i₂ (d.is H j)) (fun _ s₃ ⟨μ₃, p, d₃⟩ => ?_) fun zz zz e => e))
  exact wpAny_releaseD ⟨_, _, p, (d.trans d₃).toF, F.keep H (d.trans d₃).ext⟩
theorem IsL.set {h : Heap} {m : MV} {v : Value} (i : Is h m v) : ∀ {a : List MV} {x : List Value}, IsL h a x → ∀ k, IsL h (a.set k m) (x.set k v)
  | _, _, .nil, k => by simp; exact .nil
  | _, _, .cons _ r, 0 => .cons i r
  | _, _, .cons j r, k + 1 => .cons j (r.set i k)

theorem setItem_plain {A : Around} {s : Shared} {l : Addr} {items : Array Value} {c : Nat} {k : Int} {t : Tok} {v : Value} {Q : Unit → Shared → Prop} (ho : s.heap.get? l = some (W.listOf items c))
    (h0 : 0 ≤ k) (hfit : k < 2 ^ 63) (hn : k < items.size)
    (hQ : ∀ h' c', h'.get? l = some (W.listOf (items.setIfInBounds k.toNat v) c') → Heap.SameBut l s.heap h' → TupKeep s.heap h' → Q () { s with heap := h' }) :
    wpAny (model prog w) A (setItem (.ref l) (.int k t) v) Q (fun zz zz => False) s := by
  have hl := isList_of (vs := items.toList) (by simpa using ho)
  unfold setItem
  refine wpAny_holding ?_
  refine wpAny_bind (wpAny_sequenceKey hl.typeIs (by decide) ?_)
  refine wpAny_bind (wpAny_callSpecial?_slot (name := Str.ofString "__setitem__") hl.typeIs slot_list_setitem
    (wpAny_call_entry slot_list_setitem hl.typeIs entry_list_setitem ?_ (args_list_setitem _ _ _)))
  show wpAny _ _ (Builtin.List.listSubscript? (.int k t) >>= _) _ _ s
  refine wpAny_bind (wpAny_listSubscript_int (fitsIndex_of h0 hfit) ?_)
  clear hfit
  obtain ⟨j, rfl⟩ := Int.eq_ofNat_of_zero_le h0
  have hj : j < items.size := by lia
  have hx' : items[j]? = some items[j] := Array.getElem?_eq_getElem hj
  show wpAny _ _ ((seqItemAt l j >>= fun r => pure (r.map (j, ·))) >>= _) _ _ s
  refine wpAny_bind (wpAny_bind (wpAny_seqItemAt ho rfl (wpAny_pure ?_)))
  rw [hx']
  show wpAny _ _ (setSeqItemAt l j v >>= _) _ _ s
  obtain ⟨⟨c', e'⟩, hs, tk⟩ := listWrite (f := (·.setIfInBounds j v)) ho
  refine wpAny_bind (wpAny_setSeqItemAt ho rfl ?_)
  first
    | exact wpAny_bind (wpAny_pure (wpAny_pure ⟨.none, rfl, wpAny_pure (hQ _ c' e' hs tk)⟩))
    | exact wpAny_pure ⟨.none, rfl, wpAny_pure (hQ _ c' e' hs tk)⟩
theorem SetT.list {l : Addr} {items : List MV} {k : Int} {v : MV} {post : Mu → Prop} (hl : μ l = some (.list items)) (h0 : 0 ≤ k) (hk : k < items.length) (hf : k < 2 ^ 63) (h : post (μ.set l (.list (items.set k.toNat v)))) :
    SetT prog w base n (.ref l) (.int k) v μ post := by
  intro A s vo vi vv R H i j iv; cases i; cases j
  obtain ⟨vs, c, hlo, il⟩ := H.objs _ _ hl
  refine setItem_plain hlo h0 hf (by rw [List.size_toArray, il.length]; exact hk) fun h' c' e' hs tk => ⟨_, h, Done.setList (t := s.toks) H hl hs ⟨vs.set k.toNat vv, c', ?_, (il.set iv _).keep tk⟩ tk⟩
  rw [e', List.setIfInBounds_toArray]

/-- a method that the model calls by its own name -/
noncomputable def dunIn (K : Frag) (C : Addr) (name : Str) (f : Addr) : Bool := (findIn K (.ref C) name == some (some (.ref f))) && isFn K (.ref f)
theorem Fn.call {f : Value} {args : List MV} {post : MV → Mu → Prop} (h : Fn prog w base n f args [] μ post) {A s vs} (R : Room n A) (H : HR w.params base μ s.heap) (i : IsL s.heap args vs) :
    EvT prog w base A (PySem.call f vs) μ s s post := h A s vs [] R H i .nil
theorem SetT.inst {x C d f : Addr} {fs : Sg} {k v : MV} {post : Mu → Prop} (W : WF w K base) (hx : μ x = some (.inst C d fs)) (hq : noSeq K C = true) (hm : dunIn K C "__setitem__" f = true)
    (h : Fn prog w base n (.ref f) [.ref x, k, v] [] μ (fun zz μ' => post μ')) : SetT prog w base n (.ref x) k v μ post := by
  intro A s vo vi vv R H i j iv; cases i
  unfold dunIn at hm
  obtain ⟨hs, hf⟩ := Bool.and_eq_true_iff.mp hm
  obtain ⟨es, kk, I, E⟩ := instAt H hx
  have X := W.kin.keeps H.stays
  unfold UnT setItem sequenceKey
  refine wpAny_holding (wpAny_bind (wpAny_bind (I.type.here ?_)))
  refine wpAny_bind ((anyM_none X hq).here ?_)
  rw [if_pos (show (!false) = true from rfl)]
  refine wpAny_pure (wpAny_bind (special_fn X I (beq_iff_eq.mp hs) (beq_iff_eq.mp hf) ((h.call R H (.cons (.ref x) (.cons j (.cons iv .nil)))).then_ fun zz μ' zz s' p d zz => ?_)))
  exact wpAny_pure ⟨_, p, d⟩

theorem in1_room {A : Around} (R : Room (n + 1) A) : Room n A.in1 := ⟨R.1, by have := R.2.1; show A.depth + 5 * n ≤ 900; lia, by have := R.2.2; show A.units + 1 + 20 * n ≤ 9000; lia⟩
/-- a subscript of an instance -/
noncomputable def subIn (K : Frag) (C : Addr) (f : Addr) : Bool := dunIn K C "__getitem__" f && fnIn K f
inductive SubP (prog : Program) (w : World) (base : Heap) (n : Nat) (K : Frag) (a : MV) (post : MV → Mu → Prop) (b : MV) (μ₂ : Mu) : Prop
  | mk (x C d : Addr) (fs : Sg) (f : Addr) : a = .ref x → μ₂ x = some (.inst C d fs) → Mine.subIn K C f = true → Fn prog w base n (.ref f) [.ref x, b] [] μ₂ post → SubP prog w base n K a post b μ₂
set_option tactic.hygienic true in
theorem Ev.item_inst {value slice pos} {post : MV → Mu → Prop} (W : WF w K base) (h : Ev prog w base (n + 1) sc value σ μ (fun a μ₁ => Ev prog w base (n + 1) sc slice σ μ₁ (SubP prog w base n K a post)))
    (hsl : ∀ o i, subscripted slice true o i = runValue (.builtin "lifetime.subscript" ⟨[o, i], []⟩) := by intro _ _; with_unfolding_all rfl) : Ev prog w base (n + 1) sc (.Subscript value slice pos) σ μ post := by
  intro A env s R G H F
  refine Subscript_ ((h A env s R G H F).then_ fun a μ₁ va s₁ h₁ d₁ i₁ => (h₁.at R G H F d₁).then_ fun b μ₂ vb s₂ ⟨x, C, d, fs, f, e, hx, hm, h₂⟩ d₂ i₂ => ?_)
  subst e; cases i₁
  unfold Mine.subIn at hm
  obtain ⟨hm, hfn⟩ := Bool.and_eq_true_iff.mp hm
  unfold dunIn at hm
  obtain ⟨hs, hf⟩ := Bool.and_eq_true_iff.mp hm
  obtain ⟨es, kk, I, E⟩ := instAt d₂.hr hx
  have X := W.kin.keeps d₂.hr.stays
  unfold fnIn at hfn
  split at hfn
  · rename_i e
    unfold subscriptTail getitemInPython
    refine wpAny_bind (wpAny_bind (wpAny_bind (I.type.here ((looks_findIn X (beq_iff_eq.mp hs)).here ?_))))
    dsimp only
    refine wpAny_bind (wpAny_load (X _ _ e) (wpAny_pure ?_))
    dsimp only
    rw [hsl]
    refine wpAny_bind (wpAny_runValue (codeAny_builtin entry_sub ?_))
    unfold Builtin.«lifetime.subscript»
    refine wpAny_bind (special_fn X I (beq_iff_eq.mp hs) (beq_iff_eq.mp hf) ((h₂.call (in1_room R) d₂.hr (.cons (.ref x) (.cons i₂ .nil))).then_ fun r μ₃ vr s₃ p d₃ i₃ => ?_))
    refine wpAny_pure ?_
    show wpAny (model prog w) A (letTemporaryGo value (.ref x) vr >>= fun zz => pure vr) _ _ s₃
    exact wpAny_bind (wpAny_letTemporaryGo (wpAny_pure ⟨_, _, p, (d₁.trans d₂).trans d₃, i₃⟩))
  · cases hfn

/-- x in an instance -/
theorem Op.in_inst {x C d f : Addr} {fs : Sg} {v : MV} {post : MV → Mu → Prop} (W : WF w K base) (hx : μ x = some (.inst C d fs)) (hm : dunIn K C "__contains__" f = true)
    (h : Fn prog w base n (.ref f) [.ref x, v] [] μ (fun r μ₁ => TruthT prog w base n r μ₁ (fun b μ₂ => post (.bool b) μ₂))) : Op2 prog w base n (compareOp .In) v (.ref x) μ post := by
  intro A s va vb R H i j; cases j
  unfold dunIn at hm
  obtain ⟨hs, hf⟩ := Bool.and_eq_true_iff.mp hm
  obtain ⟨es, kk, I, E⟩ := instAt H hx
  have X := W.kin.keeps H.stays
  unfold EvT
  refine wpAny_bind (m := contains (.ref x) va) ?_
  unfold contains
  refine wpAny_holding (wpAny_bind (wpAny_bind (I.type.here ((looks_findIn X (beq_iff_eq.mp hs)).here ?_))))
  rw [if_neg (by simp)]
  refine wpAny_bind (unlessNone_K X I (beq_iff_eq.mp hs) hf ((h.call R H (.cons (.ref x) (.cons i .nil))).then_ fun r μ₁ vr s₁ p d i₁ => ?_))
  refine wpAny_mono (p A s₁ vr R d.hr i₁) (fun b s₂ ⟨μ₂, p₂, d₂⟩ => ?_) fun zz zz e => e
  exact wpAny_pure ⟨_, _, p₂, d.trans d₂, .bool b⟩

/-- del o[i], of an instance -/
inductive DelP (prog : Program) (w : World) (base : Heap) (n : Nat) (K : Frag) (ov : MV) (σ : Sg) (post : MF → Sg → Mu → Prop) (iv : MV) (μ₂ : Mu) : Prop
  | mk (x C d : Addr) (fs : Sg) (f : Addr) : ov = .ref x → μ₂ x = some (.inst C d fs) → noSeq K C = true → dunIn K C "__delitem__" f = true → Fn prog w base n (.ref f) [.ref x, iv] [] μ₂ (fun zz μ₃ => post .next σ μ₃) → DelP prog w base n K ov σ post iv μ₂
theorem Ex.del_inst {o i p pos} {post : MF → Sg → Mu → Prop} (W : WF w K base) (h : Ev prog w base n sc o σ μ (fun ov μ₁ => Ev prog w base n sc i σ μ₁ (DelP prog w base n K ov σ post))) : Ex prog w base n sc (.Delete [.Subscript o i p] pos) σ μ post := by
  intro A env s R G H F
  refine wpAny_Delete ?_
  show wpAny _ _ (delete (.Subscript o i p) env >>= fun zz => pure ()) _ _ s
  refine wpAny_bind (delete_Subscript ((h A env s R G H F).then_ fun ov μ₁ vo s₁ h₁ d₁ i₁ => (h₁.at R G H F d₁).then_ fun iv μ₂ vi s₂ ⟨x, C, d, fs, f, e, hx, hq, hm, h₂⟩ d₂ i₂ => ?_))
  subst e; cases i₁
  unfold dunIn at hm
  obtain ⟨hs, hf⟩ := Bool.and_eq_true_iff.mp hm
  obtain ⟨es, kk, I, E⟩ := instAt d₂.hr hx
  have X := W.kin.keeps d₂.hr.stays
  unfold delItem sequenceKey
  refine wpAny_holding (wpAny_bind (wpAny_bind (I.type.here ?_)))
  refine wpAny_bind ((anyM_none X hq).here ?_)
  rw [if_pos (show (!false) = true from rfl)]
  refine wpAny_pure (wpAny_bind (special_fn X I (beq_iff_eq.mp hs) (beq_iff_eq.mp hf) ((h₂.call R d₂.hr (.cons (.ref x) (.cons i₂ .nil))).then_ fun r μ₃ vr s₃ p d₃ zz => ?_)))
  have dd := (d₁.trans d₂).trans d₃
  exact wpAny_pure (wpAny_pure ⟨_, _, _, p, dd.toF, F.keep H dd.ext, .next⟩)

/-- self.xs[:] = a list -/
theorem setItem_all {A : Around} {s : Shared} {l l' sl : Addr} {items items' : Array Value} {c : Nat} {Q : Unit → Shared → Prop} (ho : s.heap.get? l = some (W.listOf items c)) (hl' : s.heap.IsList l' items') (hne : l ≠ l')
    (hs : s.heap.IsSliceOf sl .none .none .none) (hz : items.size ≤ 100000) (hz' : items'.size ≤ 100000)
    (hQ : ∀ h' c', h'.get? l = some (W.listOf items' c') → Heap.SameBut l s.heap h' → TupKeep s.heap h' → Q () { s with heap := h' }) :
    wpAny (model prog w) A (setItem (.ref l) (.ref sl) (.ref l')) Q (fun zz zz => False) s := by
  have hl := isList_of (vs := items.toList) (by simpa using ho)
  obtain ⟨os, hos, hcs, hds⟩ := id hs
  have hTs : s.TypeIs (.ref sl) "slice" := ⟨os, hos, hcs⟩
  unfold setItem
  refine wpAny_holding ?_
  refine wpAny_bind (wpAny_sequenceKey hl.typeIs (by decide) ?_)
  refine wpAny_bind (wpAny_callSpecial?_slot (name := Str.ofString "__setitem__") hl.typeIs slot_list_setitem
    (wpAny_call_entry slot_list_setitem hl.typeIs entry_list_setitem ?_ (args_list_setitem _ _ _)))
  show wpAny _ _ (Builtin.List.listSubscript? (.ref sl) >>= _) _ _ s
  refine wpAny_bind ?_
  unfold Builtin.List.listSubscript?
  refine wpAny_bind (wpAny_specialOf hTs slice_no_index ?_)
  simp only [Option.isNone_none, if_true]
  refine wpAny_pure ?_
  show wpAny _ _ (typeOf (.ref sl) >>= _) _ _ s
  refine wpAny_bind (wpAny_typeOf hTs ?_)
  rw [if_neg (by decide)]
  rw [listSliceParts_eq]
  refine wpAny_bind (wpAny_bind (wpAny_field hos hds (x := .none) rfl (wpAny_bind (wpAny_listPart .none ?_))))
  rw [if_neg (by decide)]
  refine wpAny_bind (wpAny_field hos hds (x := .none) rfl (wpAny_bind (wpAny_listPart .none ?_)))
  refine wpAny_bind (wpAny_field hos hds (x := .none) rfl (wpAny_bind (wpAny_listPart .none (wpAny_pure ?_))))
  have hsame : Builtin.List.listSameRef (.ref l) (.ref l') = false := by unfold Builtin.List.listSameRef; exact beq_eq_false_iff_ne.mpr hne
  obtain ⟨o', ho', hc', n', hd'⟩ := id hl'
  have e : (fun (xs : Array Value) => xs.extract 0 (0 : Int).toNat ++ items' ++ xs.extract (max (0 : Int) (items.size : Int)).toNat) items = items' := by
    have : (max (0 : Int) (items.size : Int)).toNat = items.size := by lia
    simp
  obtain ⟨⟨c', e'⟩, hsb, tk⟩ := listWrite (f := fun (xs : Array Value) => xs.extract 0 (0 : Int).toNat ++ items' ++ xs.extract (max (0 : Int) (items.size : Int)).toNat) ho
  have e2 : items.extract 0 (0 : Int).toNat ++ items' ++ items.extract (max (0 : Int) (items.size : Int)).toNat = items' := e
  rw [e2] at e'
  rw [hsame, if_neg Bool.false_ne_true]
  refine wpAny_bind ?_
  unfold Builtin.List.listAllItems
  refine wpAny_bind (wpAny_typeOf hl'.typeIs ?_)
  rw [if_pos (by decide)]
  refine listItems_at ho' hd' ?_
  refine wpAny_bind (listItems_at ho rfl ?_)
  refine wpAny_bind (wpAny_of_eq (sliceIndices_raw none none none items.size (by simp)) ?_)
  have hb : sliceBounds none none none items.size = (0, (items.size : Int), 1) := rfl
  rw [hb]
  dsimp only
  rw [if_pos (by decide)]
  refine wpAny_bind (wpAny_rule ?_)
  rw [if_neg (by unfold Builtin.List.listTooLong; rw [decide_eq_true_iff, sizeLine_eq]; lia)]
  refine wpAny_bind (listUpdate_at ho rfl ?_ (by rw [sizeLine_eq]; lia) (by rw [e2, sizeLine_eq]; lia))
  refine wpAny_bind (wpAny_letGo ?_)
  refine wpAny_bind (wpAny_pure (wpAny_pure ?_))
  exact ⟨.none, rfl, wpAny_pure (hQ _ c' e' hsb tk)⟩

theorem Asg.slice_all {lo : Bool} {o p pos l'} {items' : List MV} {post : Sg → Mu → Prop}
    (h : Ev prog w base n sc o σ μ (fun ov μ₁ => ∃ l items, ov = .ref l ∧ l ≠ l' ∧ μ₁ l = some (.list items) ∧ μ₁ l' = some (.list items') ∧ items.length ≤ 1000 ∧ items'.length ≤ 1000 ∧ post σ (μ₁.set l (.list items')))) :
    Asg lo prog w base n sc (.Subscript o (.Slice none none none p) pos) (.ref l') σ μ post := by
  intro A env s vv R G H F j
  cases j
  rw [assign_Subscript]
  refine wpAny_bind (wpAny_holding ((h A env s R G H F).then_ fun ov μ₁ vo s₁ ⟨l, items, e, hne, hl, hl', hz, hz', p⟩ d₁ i₁ => wpAny_bind (wpAny_holding (wpAny_Slice (evalPart_none_step (evalPart_none_step (evalPart_none_step ?_)))))))
  subst e; cases i₁
  refine wpAny_bind (wpAny_standAt ?_)
  obtain ⟨vs, c, hlo, il⟩ := d₁.hr.objs _ _ hl
  obtain ⟨vs', c', hlo', il'⟩ := d₁.hr.objs _ _ hl'
  have kp : ∀ b o, s₁.heap.get? b = some o → (s₁.heap.push { cls := .type "slice", data := .fields #[.none, .none, .none] }).get? b = some o := fun b o e => Heap.get?_push_of_some _ e
  have d₂ := d₁.trans (Done.keeps (t := s₁.toks) d₁.hr kp)
  refine wpAny_bind (wpAny_holding (setItem_all (s := { s₁ with heap := s₁.heap.push { cls := .type "slice", data := .fields #[.none, .none, .none] } }) (kp _ _ hlo) (IsList.stays (isList_of hlo') kp) hne (Heap.IsSliceOf.new ..) (by rw [List.size_toArray, il.length]; lia) (by rw [List.size_toArray, il'.length]; lia) fun h' c'' e' hs tk => ?_))
  have d₃ := d₂.trans (Done.setList (t := s₁.toks) d₂.hr hl hs ⟨vs', c'', e', (il'.keep (tupKeep_of kp)).keep tk⟩ tk)
  exact wpAny_releaseD ⟨_, _, p, d₃.toF, F.keep H d₃.ext⟩
end
end Mine
namespace Mine
set_option tactic.hygienic false

section
variable {w : World} {base : Heap} {prog : Program} {n : Nat} {sc : Scope} {σ : Sg} {μ : Mu} {K : Frag}

theorem Room.hh {A : Around} (R : Room n A) : A.handled = none := R.1
theorem sep_args {h : Heap} {a : MV} {vs : List Value} (i : IsL h [a] vs) : ∃ v, vs = [v] ∧ Is h a v := by
  cases i with | cons i j => cases j; exact ⟨_, rfl, i⟩
/-- a call of the model's own, by its value, with one argument -/
theorem Fn.of1 {f : Value} {a : MV} {post : MV → Mu → Prop} (h : ∀ A s v, Room n A → HR w.params base μ s.heap → Is s.heap a v → EvT prog w base A (PySem.call f [v]) μ s s post) : Fn prog w base n f [a] [] μ post := by
  intro A s vs kvs R H i j
  cases i with | cons i k => cases k; exact h A s _ R H i
theorem Fn.of2 {f : Value} {a b : MV} {post : MV → Mu → Prop} (h : ∀ A s v u, Room n A → HR w.params base μ s.heap → Is s.heap a v → Is s.heap b u → EvT prog w base A (PySem.call f [v, u]) μ s s post) : Fn prog w base n f [a, b] [] μ post := by
  intro A s vs kvs R H i j
  cases i with | cons i k => cases k with | cons k l => cases l; exact h A s _ _ R H i k
theorem Fn.of3 {f : Value} {a b c : MV} {post : MV → Mu → Prop} (h : ∀ A s v u x, Room n A → HR w.params base μ s.heap → Is s.heap a v → Is s.heap b u → Is s.heap c x → EvT prog w base A (PySem.call f [v, u, x]) μ s s post) : Fn prog w base n f [a, b, c] [] μ post := by
  intro A s vs kvs R H i j
  cases i with | cons i k => cases k with | cons k l => cases l with | cons l m => cases m; exact h A s _ _ _ R H i k l

/-- a callee that is no object -/
noncomputable def noRef : Value → Bool
  | .ref _ => false
  | _ => true
theorem callWith_b {A : Around} {env : Env} {s : Shared} {f : Value} {first : List Value} {fms : List MV} {args : List Expr} {ks : List Keyword} {pos : Pos} {post} (hk : noRef f = true) (hp : plainArgs args)
    (R : Room n A) (G : GEnv base sc env) (H : HR w.params base μ s.heap) (F : FrR sc env σ μ s.heap) (i : IsL s.heap fms first)
    (h : Evs prog w base n sc args σ μ (fun as μ₁ => Kws prog w base n sc ks σ μ₁ (fun kw μ₂ => Fn prog w base n f (fms ++ as) kw μ₂ post)))
    (hkn : ∀ env pos, (backToKw pos (keywordEach ks env)).all (·.1.isSome) = true ∧ (backToKw pos (keywordEach ks env)).any (·.1.isNone) = false) :
    EvT prog w base A (callWith pos f first (backTo pos (starEach args env)) (backToKw pos (keywordEach ks env))) μ s s post := by
  refine callWith_of (P := fun zz => True) (by rw [hp env pos, (hkn env pos).2]; rfl) (fun h zz => ⟨.machine, .inr (.inl rfl), Looks.of_pure (by cases f <;> first | rfl | cases hk)⟩) (evalArgs_any (hp env pos) (hkn env pos).1 ?_)
  refine wpAny_mono (h A env s pos R G H F) (fun vs s₁ ⟨as, μ₁, p₁, d₁, i₁⟩ => ?_) fun zz zz x => x
  refine wpAny_mono (p₁.2 A env s₁ pos R G d₁.hr (F.keep H d₁.ext)) (fun kvs s₂ ⟨kw, μ₂, p₂, e₂, d₂, i₂⟩ => ⟨trivial, ?_⟩) fun zz zz x => x
  rw [e₂]
  exact EvT.from (d₁.trans d₂) (p₂ A s₂ _ _ R d₂.hr (((d₁.trans d₂).isL H i).append (d₂.isL d₁.hr i₁)) i₂)

/-- a builtin, by its name -/
theorem Ev.call_b {x p args ks pos f} {post} (W : WF w K base) (hl : sc.names.lookup x = some .globalImplicit) (e : nsIn K mainGlobals x = some none) (hv : bootBuiltins x = some f) (hk : noRef f = true)
    (h : Evs prog w base n sc args σ μ (fun as μ₁ => Kws prog w base n sc ks σ μ₁ (fun kw μ₂ => Fn prog w base n f as kw μ₂ post)))
    (hp : plainArgs args := by intro zz zz; rfl)
    (hkn : ∀ env pos, (backToKw pos (keywordEach ks env)).all (·.1.isSome) = true ∧ (backToKw pos (keywordEach ks env)).any (·.1.isNone) = false := by intro _ _; exact ⟨rfl, rfl⟩)
    (hne : x ≠ "__name__" := by decide) (hd : (x == ("__debug__" : Str)) = false := by decide) : Ev prog w base n sc (.Call (.Name x p) args ks pos) σ μ post := by
  intro A env s R G H F
  have z : Ev prog w base n sc (.Name x p) σ μ (fun a μ₁ => a = .raw f ∧ μ₁ = μ) := Ev.builtin W hl e hv (fun zz => .raw f) ⟨rfl, rfl⟩ hne hd
  refine wpAny_Call_Name_kw ((z A env s R G H F).then_ fun a μ₁ va s₁ ⟨e1, e2⟩ d₁ i₁ => ?_)
  subst e1 e2
  cases i₁
  exact EvT.from d₁ (callWith_b hk hp (fms := []) R G d₁.hr (F.keep H d₁.ext) .nil h hkn)

/-- a method of a builtin type -/
noncomputable def BM (w : World) (base : Heap) (a : MV) (name : Str) (id : String) (μ : Mu) : Prop := ∀ (s : Shared) (va : Value), HR w.params base μ s.heap → Is s.heap a va →
  ∃ T, PlainAttrs T ∧ Slot T name id ∧ typeOf (.builtin id) = pure (.type "method_descriptor") ∧ s.TypeIs va T ∧ (∀ x, va = .ref x → ∃ o, s.heap.get? x = some o ∧ o.dict = none)
noncomputable abbrev MethB (prog : Program) (w : World) (base : Heap) (n : Nat) (sc : Scope) (name : Str) (args : List Expr) (ks : List Keyword) (σ : Sg) (post : MV → Mu → Prop) : MV → Mu → Prop := fun ov μ₁ =>
  ∃ id, BM w base ov name id μ₁ ∧ Evs prog w base n sc args σ μ₁ (CallP prog w base n sc ks σ (.builtin id) ov post)
theorem MethB.intro {ov : MV} {id : String} {name : Str} {args : List Expr} {ks : List Keyword} {post : MV → Mu → Prop} (hb : BM w base ov name id μ)
    (h : Evs prog w base n sc args σ μ (CallP prog w base n sc ks σ (.builtin id) ov post)) : MethB prog w base n sc name args ks σ post ov μ := ⟨id, hb, h⟩
theorem Ev.meth_b {o name apos args ks pos} {post}
    (h : Ev prog w base n sc o σ μ (MethB prog w base n sc name args ks σ post))
    (hp : plainArgs args := by intro zz zz; rfl)
    (hkn : ∀ env pos, (backToKw pos (keywordEach ks env)).all (·.1.isSome) = true ∧ (backToKw pos (keywordEach ks env)).any (·.1.isNone) = false := by intro _ _; exact ⟨rfl, rfl⟩)
    (he : ∀ env, ∃ pl, eval (.Call (.Attribute o name apos) args ks pos) env = (do
      let ov ← eval o env
      standAt apos.atName
      let (f, first) ← holding [ov] (getMethod ov name pl)
      callWith pos f first (backTo pos (starEach args env)) (backToKw pos (keywordEach ks env))) := by intro _; exact ⟨_, rfl⟩) :
    Ev prog w base n sc (.Call (.Attribute o name apos) args ks pos) σ μ post := by
  intro A env s R G H F
  obtain ⟨pl, he⟩ := he env
  refine methodCall_KW ((h A env s R G H F).then_ fun ov μ₁ va s₁ ⟨id, hb, h₁⟩ d₁ i₁ => ?_) he
  obtain ⟨T, pa, slot, ty, hT, hd⟩ := hb s₁ va d₁.hr i₁
  refine getMethod_builtin hT pa slot ty hd ?_
  exact EvT.from d₁ (callWith_b (f := .builtin id) rfl hp (fms := [ov]) R G d₁.hr (F.keep H d₁.ext) (.cons i₁ .nil) h₁ hkn)

theorem BM.str {x : Str} {name : Str} {id : String} (slot : Slot "str" name id) (ty : typeOf (.builtin id) = pure (.type "method_descriptor")) : BM w base (.str x) name id μ := by
  intro s va H i; cases i
  exact ⟨"str", F.plainAttrs_str, slot, ty, typeIs_str _ _ _, fun zz e => nomatch e⟩
theorem BM.list {l : Addr} {items : List MV} {name : Str} {id : String} (hl : μ l = some (.list items)) (slot : Slot "list" name id) (ty : typeOf (.builtin id) = pure (.type "method_descriptor")) : BM w base (.ref l) name id μ := by
  intro s va H i; cases i
  obtain ⟨vs, c, hlo, il⟩ := H.objs _ _ hl
  exact ⟨"list", F.plainAttrs_list, slot, ty, (isList_of hlo).typeIs, fun zz e => by cases e; exact ⟨_, hlo, rfl⟩⟩
theorem BM.dict {l : Addr} {items : Sg} {name : Str} {id : String} (hl : μ l = some (.dict items)) (slot : Slot "dict" name id) (ty : typeOf (.builtin id) = pure (.type "method_descriptor")) : BM w base (.ref l) name id μ := by
  intro s va H i; cases i
  obtain ⟨es, c, hlo, il⟩ := H.objs _ _ hl
  exact ⟨"dict", F.plainAttrs_dict, slot, ty, ⟨_, hlo, rfl⟩, fun zz e => by cases e; exact ⟨_, hlo, rfl⟩⟩

/-! functions -/
theorem Fn.len_str {x : Str} {post : MV → Mu → Prop} (hx : x.length ≤ 100000) (h : post (.int x.length) μ) : Fn prog w base n (.builtin "len") [.str x] [] μ post := .of1 fun A s v R H i => by
  cases i
  unfold EvT
  with_reducible refine P.len_str ?_ ?_
  · lia
  · exact ⟨_, _, h, .tok H, .int ..⟩
theorem Fn.len_list {l : Addr} {items : List MV} {post : MV → Mu → Prop} (hl : μ l = some (.list items)) (hx : items.length ≤ 100000) (h : post (.int items.length) μ) : Fn prog w base n (.builtin "len") [.ref l] [] μ post := .of1 fun A s v R H i => by
  cases i
  obtain ⟨vs, c, hlo, il⟩ := H.objs _ _ hl
  unfold EvT
  with_reducible refine PyProof.Rows.len_list (isList_of hlo) ?_ ?_
  · rw [List.size_toArray, il.length]; lia
  · refine ⟨.int items.length, _, h, .tok H, ?_⟩
    rw [List.size_toArray, il.length]; exact .int ..
theorem Fn.len_dict {l : Addr} {items : Sg} {post : MV → Mu → Prop} (hl : μ l = some (.dict items)) (nd : (items.map (·.1)).Nodup) (hne : ∀ h, HR w.params base μ h → (l == sysModules) = false) (hx : items.length ≤ 100000) (h : post (.int items.length) μ) : Fn prog w base n (.builtin "len") [.ref l] [] μ post := .of1 fun A s v R H i => by
  cases i
  obtain ⟨kvs, dk, pk⟩ := DictIs.to (prog := prog) (H.objs _ _ hl) nd
  unfold EvT
  with_reducible refine call_len_dict (hne _ H) dk ?_ ?_
  · rw [pk.length]; lia
  · refine ⟨.int items.length, _, h, .tok H, ?_⟩
    rw [pk.length]; exact .int ..
theorem Fn.max2 {a b : Int} {post : MV → Mu → Prop} (h : post (.int (max a b)) μ) : Fn prog w base n (.builtin "max") [.int a, .int b] [] μ post := .of2 fun A s v u R H i j => by
  cases i; cases j
  unfold EvT
  with_reducible refine max_two_ints R.hh fun h' tk k => ?_
  refine ⟨.int (max a b), _, h, .keeps H k, ?_⟩
  by_cases q : b > a
  · rw [if_pos q, show max a b = b by lia]; exact .int ..
  · rw [if_neg q, show max a b = a by lia]; exact .int ..
theorem Fn.min2 {a b : Int} {post : MV → Mu → Prop} (h : post (.int (min a b)) μ) : Fn prog w base n (.builtin "min") [.int a, .int b] [] μ post := .of2 fun A s v u R H i j => by
  cases i; cases j
  unfold EvT
  with_reducible refine min_two_ints R.hh fun h' tk k => ?_
  refine ⟨.int (min a b), _, h, .keeps H k, ?_⟩
  by_cases q : b < a
  · rw [if_pos q, show min a b = b by lia]; exact .int ..
  · rw [if_neg q, show min a b = a by lia]; exact .int ..

theorem isL_ints {h : Heap} : ∀ {ns : List Int} {vs : List Value}, IsL h (ns.map .int) vs → IntsAre vs ns
  | [], _, i => by cases i; exact .nil
  | a :: r, _, i => by
    cases i with
    | cons i j => cases i with | int _ t => constructor; exact isL_ints j
theorem Fn.sum_list {l : Addr} {ns : List Int} {post : MV → Mu → Prop} (hl : μ l = some (.list (ns.map .int))) (h : post (.int ns.sum) μ) : Fn prog w base n (.builtin "sum") [.ref l] [] μ post := .of1 fun A s v R H i => by
  cases i
  obtain ⟨vs, c, hlo, il⟩ := H.objs _ _ hl
  have ia := isL_ints il
  obtain ⟨xs, e⟩ := ia.allInts.items
  have hns : ns = xs.toList.map (·.1) := by rw [← ia.numsOf, ← nums_intItems, ← e]
  unfold EvT
  with_reducible refine sum_intListG (xs := xs) R.hh (e ▸ isList_of hlo) fun h' tk t' k => ?_
  refine ⟨.int ns.sum, _, h, .keeps H k, ?_⟩
  rw [preSum_eq, List.take_of_length_le (by simp), ← hns]; exact .int ..
theorem Fn.max_list {l : Addr} {ns : List Int} {post : MV → Mu → Prop} (hl : μ l = some (.list (ns.map .int))) (hne : 0 < ns.length) (h : ∀ M, M ∈ ns → (∀ a ∈ ns, a ≤ M) → post (.int M) μ) : Fn prog w base n (.builtin "max") [.ref l] [] μ post := .of1 fun A s v R H i => by
  cases i
  obtain ⟨vs, c, hlo, il⟩ := H.objs _ _ hl
  have hi := isL_ints il
  have hl := isList_of hlo
  obtain ⟨xs, e⟩ := hi.allInts.items
  have hns : ns = xs.toList.map (·.1) := by rw [← hi.numsOf, ← nums_intItems, ← e]
  have hsz : 0 < xs.size := by
    have h3 := hne; rw [hns, List.length_map, Array.length_toList] at h3; exact h3
  rw [e] at hl
  unfold EvT
  with_reducible refine max_intList R.hh hl hsz fun v h' tk hv k => ?_
  obtain ⟨t, rfl⟩ := intItems_at hv
  obtain ⟨h1, h2⟩ := argBest_gt (numAt xs) (xs.size - 1)
  refine ⟨.int _, _, h _ ?_ fun a ha => ?_, .keeps H k, .int ..⟩
  · rw [hns, numAt_eq]; exact getD_mem (by rw [List.length_map, Array.length_toList]; lia)
  · rw [hns] at ha
    obtain ⟨j, hj, rfl⟩ := mem_getD ha
    rw [List.length_map, Array.length_toList] at hj
    rw [← numAt_eq]; exact h2 j (by lia)
theorem Fn.min_list {l : Addr} {ns : List Int} {post : MV → Mu → Prop} (hl : μ l = some (.list (ns.map .int))) (hne : 0 < ns.length) (h : ∀ M, M ∈ ns → (∀ a ∈ ns, M ≤ a) → post (.int M) μ) : Fn prog w base n (.builtin "min") [.ref l] [] μ post := .of1 fun A s v R H i => by
  cases i
  obtain ⟨vs, c, hlo, il⟩ := H.objs _ _ hl
  have hi := isL_ints il
  have hl := isList_of hlo
  obtain ⟨xs, e⟩ := hi.allInts.items
  have hns : ns = xs.toList.map (·.1) := by rw [← hi.numsOf, ← nums_intItems, ← e]
  have hsz : 0 < xs.size := by
    have h3 := hne; rw [hns, List.length_map, Array.length_toList] at h3; exact h3
  rw [e] at hl
  unfold EvT
  with_reducible refine min_intList R.hh hl hsz fun v h' tk hv k => ?_
  obtain ⟨t, rfl⟩ := intItems_at hv
  obtain ⟨h1, h2⟩ := argBest_lt (numAt xs) (xs.size - 1)
  refine ⟨.int _, _, h _ ?_ fun a ha => ?_, .keeps H k, .int ..⟩
  · rw [hns, numAt_eq]; exact getD_mem (by rw [List.length_map, Array.length_toList]; lia)
  · rw [hns] at ha
    obtain ⟨j, hj, rfl⟩ := mem_getD ha
    rw [List.length_map, Array.length_toList] at hj
    rw [← numAt_eq]; exact h2 j (by lia)
theorem Fn.tuple_list {l : Addr} {items : List MV} {post : MV → Mu → Prop} (hl : μ l = some (.list items)) (hx : items.length ≤ 100000) (h : post (.tup items) μ) : Fn prog w base n (.type "tuple") [.ref l] [] μ post := .of1 fun A s v R H i => by
  cases i
  obtain ⟨vs, c, hlo, il⟩ := H.objs _ _ hl
  unfold EvT
  with_reducible refine call_tuple_list (isList_of hlo) (fun h' k => ?_) ?_
  · refine ⟨.tup items, _, h, ?_, ?_⟩
    · exact Done.keeps (t := s.toks) H fun b o e => Heap.get?_push_of_some _ (k b o e)
    · exact .tup ⟨_, Heap.get?_push_size _ rfl, rfl, 0, rfl⟩ (il.keep (tupKeep_of fun b o e => Heap.get?_push_of_some _ (k b o e)))
  · rw [List.size_toArray, il.length, sizeLine_eq]; lia
theorem Fn.type_str {x : Str} {post : MV → Mu → Prop} (h : post (.raw (.type "str")) μ) : Fn prog w base n (.type "type") [.str x] [] μ post := .of1 fun A s v R H i => by
  cases i
  unfold EvT
  with_reducible refine call_type_of (typeIs_str _ _ _) (by decide) ?_
  exact ⟨_, _, h, .refl H, .raw _⟩
theorem Fn.type_list {l : Addr} {items : List MV} {post : MV → Mu → Prop} (hl : μ l = some (.list items)) (h : post (.raw (.type "list")) μ) : Fn prog w base n (.type "type") [.ref l] [] μ post := .of1 fun A s v R H i => by
  cases i
  obtain ⟨vs, c, hlo, il⟩ := H.objs _ _ hl
  unfold EvT
  with_reducible refine call_type_of (isList_of hlo).typeIs (by decide) ?_
  exact ⟨_, _, h, .refl H, .raw _⟩
theorem Op.is_type {a b : String} {post : MV → Mu → Prop} (h : post (.bool (a == b)) μ) : Op2 prog w base n (compareOp .Is) (.raw (.type a)) (.raw (.type b)) μ post := by
  intro A s va vb R H i j; cases i; cases j
  have e : (Value.type a == Value.type b) = (a == b) := by
    by_cases q : a = b
    · subst q; simp
    · rw [beq_eq_false_iff_ne.mpr q]; exact beq_eq_false_iff_ne.mpr fun z => q (by cases z; rfl)
  exact wpAny_pure (a := Value.bool (Value.type a == Value.type b)) ⟨_, _, h, .refl H, e ▸ .bool _⟩
theorem Op.isnot_type {a b : String} {post : MV → Mu → Prop} (h : post (.bool (a != b)) μ) : Op2 prog w base n (compareOp .IsNot) (.raw (.type a)) (.raw (.type b)) μ post := by
  intro A s va vb R H i j; cases i; cases j
  have e : (Value.type a == Value.type b) = (a == b) := by
    by_cases q : a = b
    · subst q; simp
    · rw [beq_eq_false_iff_ne.mpr q]; exact beq_eq_false_iff_ne.mpr fun z => q (by cases z; rfl)
  refine wpAny_pure (a := Value.bool (!(Value.type a == Value.type b))) ⟨_, _, h, .refl H, ?_⟩
  rw [e]; exact .bool _
end
end Mine
namespace Mine
open PySem PySem.W PySem.Calls PyProof.Rows PySem.SeqAt
set_option tactic.hygienic false

section
variable {w : World} {base : Heap} {prog : Program} {n : Nat} {sc : Scope} {σ : Sg} {μ : Mu} {K : Frag}

/-! methods of str -/
theorem Fn.lower {x : Str} {post : MV → Mu → Prop} (hx : Builtin.Str.tooLong (Txt.lower x).length = false) (h : post (.str (Txt.lower x)) μ) : Fn prog w base n (.builtin "str.lower") [.str x] [] μ post := .of1 fun A s v R H i => by
  cases i with | str _ t =>
  unfold EvT
  refine call_gives PySem.F.slot_str_lower (typeIs_str _ _ _) PySem.F.entry_str_lower (PySem.F.args_str_lower_1 _) (gives_str_lower x t hx) ?_
  exact ⟨fit_le hx, _, _, h, .tok H, .str ..⟩
theorem Fn.upper {x : Str} {post : MV → Mu → Prop} (hx : Builtin.Str.tooLong (Txt.upper x).length = false) (h : post (.str (Txt.upper x)) μ) : Fn prog w base n (.builtin "str.upper") [.str x] [] μ post := .of1 fun A s v R H i => by
  cases i with | str _ t =>
  unfold EvT
  refine call_gives PySem.F.slot_str_upper (typeIs_str _ _ _) PySem.F.entry_str_upper (PySem.F.args_str_upper_1 _) (gives_str_upper x t hx) ?_
  exact ⟨fit_le hx, _, _, h, .tok H, .str ..⟩
theorem Fn.str_index {x y : Str} {i : Nat} {rest : List Nat} {post : MV → Mu → Prop} (ho : Builtin.Str.occurrences x y 0 x.length 1 = i :: rest) (h : post (.int i) μ) : Fn prog w base n (.builtin "str.index") [.str x, .str y] [] μ post := .of2 fun A s v u R H i j => by
  cases i with | str _ t =>
  cases j with | str _ t' =>
  unfold EvT
  with_reducible refine call_gives PySem.F.slot_str_index (typeIs_str _ _ _) PySem.F.entry_str_index (PySem.F.args_str_index_2 _ _) (gives_str_index x y t t' _ rest ho) ?_
  exact ⟨_, _, h, .tok H, .int ..⟩

/-! methods of list -/
theorem Fn.append {l : Addr} {items : List MV} {x : MV} {post : MV → Mu → Prop} (hl : μ l = some (.list items)) (hz : items.length ≤ 100000) (h : post .none (μ.set l (.list (items ++ [x])))) :
    Fn prog w base n (.builtin "list.append") [.ref l, x] [] μ post := .of2 fun A s v u R H i j => by
  cases i
  obtain ⟨vs, c, hlo, il⟩ := H.objs _ _ hl
  unfold EvT
  have hpl : s.heap.PlainList l vs.toArray := ⟨c, hlo⟩
  have hsz : vs.toArray.size ≤ sizeLine := by rw [List.size_toArray, il.length, sizeLine_eq]; lia
  with_reducible refine wpAny_list_append_plain (hsz := hsz) hpl fun h' hl' hs => ?_
  · obtain ⟨c', e⟩ := hl'
    have tk : TupKeep s.heap h' := tupKeep_but hlo (by unfold W.listOf; simp) hs.extBut
    exact ⟨.none, _, h, Done.setList (t := s.toks) H hl hs ⟨vs ++ [u], c', by rw [e]; simp [W.listOf], (il.keep tk).append (.cons (j.keep tk) .nil)⟩ tk, .none⟩
noncomputable def strIs (x : Str) : Value → Bool
  | .str y _ => y == x
  | _ => false
noncomputable def intIs (x : Int) : Value → Bool
  | .int y _ => y == x
  | _ => false
theorem isL_strs {h : Heap} : ∀ {ns : List Str} {vs : List Value}, IsL h (ns.map .str) vs → ∀ v ∈ vs, ∃ y t, v = .str y t
  | [], _, i => by cases i; intro v h; cases h
  | a :: r, _, i => by
    cases i with | cons i j =>
    cases i with | str _ t =>
    intro v hv
    rcases List.mem_cons.mp hv with rfl | hv
    · exact ⟨a, t, rfl⟩
    · exact isL_strs j v hv
theorem strs_countP {h : Heap} {x : Str} : ∀ {ns : List Str} {vs : List Value}, IsL h (ns.map .str) vs → vs.countP (strIs x) = ns.count x
  | [], _, i => by cases i; rfl
  | a :: r, _, i => by
    cases i with | cons i j =>
    cases i with | str _ t =>
    rw [List.countP_cons, List.count_cons, strs_countP j]; rfl
theorem Fn.count_strs {l : Addr} {ns : List Str} {x : Str} {post : MV → Mu → Prop} (hl : μ l = some (.list (ns.map .str))) (h : post (.int (ns.count x)) μ) :
    Fn prog w base n (.builtin "list.count") [.ref l, .str x] [] μ post := .of2 fun A s v u R H i j => by
  cases i; cases j with | str _ t =>
  obtain ⟨vs, c, hlo, il⟩ := H.objs _ _ hl
  unfold EvT
  refine call_meets PySem.F.slot_list_count (isList_of hlo).typeIs PySem.F.entry_list_count (PySem.F.args_list_count_2 _ _) (list_countAt l vs.toArray c none #[] (.str x t) (strIs x)) ⟨hlo, fun y hy => ?_, .int (ns.count x), _, h, .tok H, ?_⟩
  · obtain ⟨z, t', rfl⟩ := isL_strs il y (by simpa using hy)
    intro prog w E Q hq
    refine wpAny_eqBool_str ?_
    have : strIs x (.str z t') = decide (z = x) := by show (z == x) = _; by_cases e : z = x <;> simp [e]
    rw [← this]; exact hq
  · rw [List.toList_toArray, strs_countP il]; exact .int ..
theorem Fn.index_ints {l : Addr} {ns : List Int} {x : Int} {j : Nat} {post : MV → Mu → Prop} (hl : μ l = some (.list (ns.map .int))) (hj : ns[j]? = some x) (hno : ∀ m < j, ns[m]? ≠ some x) (hz : ns.length ≤ 100000) (h : post (.int j) μ) :
    Fn prog w base n (.builtin "list.index") [.ref l, .int x] [] μ post := .of2 fun A s v u R H i k => by
  cases i; cases k with | int _ t =>
  obtain ⟨vs, c, hlo, il⟩ := H.objs _ _ hl
  have hlen := il.length
  rw [List.length_map] at hlen
  have hjl : j < ns.length := by
    rcases Nat.lt_or_ge j ns.length with q | q
    · exact q
    · rw [List.getElem?_eq_none_iff.mpr q] at hj; cases hj
  have at_ : ∀ m, m < vs.length → ∃ y t, vs[m]? = some (.int y t) ∧ ns[m]? = some y := fun m hm => by
    have : (ns.map MV.int)[m]? = some (.int (ns[m]'(by lia))) := by rw [List.getElem?_map, List.getElem?_eq_getElem (by lia)]; rfl
    obtain ⟨v, hv, iv⟩ := il.at this
    cases iv with | int _ t' => exact ⟨_, t', hv, by rw [List.getElem?_eq_getElem (by lia)]⟩
  unfold EvT
  refine call_meets PySem.F.slot_list_index (isList_of hlo).typeIs PySem.F.entry_list_index (PySem.F.args_list_index_2 _ _) (list_indexAt l vs.toArray c none #[] (.int x t) (intIs x) j (by rw [List.size_toArray]; lia) (by lia) ?_ fun m hm hm' => ?_) ⟨hlo, fun y hy => ?_, .int j, _, h, .tok H, .int ..⟩
  · obtain ⟨y, t', e1, e2⟩ := at_ j (by lia)
    rw [hj] at e2; cases e2
    have : vs.toArray[j]'(by rw [List.size_toArray]; lia) = .int x t' := by
      have := e1; rw [List.getElem?_eq_getElem (by lia)] at this; simpa using this
    rw [this]; show (x == x) = true; simp
  · rw [List.size_toArray] at hm
    obtain ⟨y, t', e1, e2⟩ := at_ m hm
    have e3 : vs.toArray[m]'(by rw [List.size_toArray]; exact hm) = .int y t' := by
      have := e1; rw [List.getElem?_eq_getElem hm] at this; simpa using this
    rw [e3]; show (y == x) = false
    refine beq_eq_false_iff_ne.mpr fun e => hno m hm' (by rw [e2, e])
  · obtain ⟨m, hm, rfl⟩ := List.mem_iff_getElem.mp (show y ∈ vs by simpa using hy)
    obtain ⟨z, t', e1, e2⟩ := at_ m hm
    have e3 : vs[m] = .int z t' := by have := e1; rw [List.getElem?_eq_getElem hm] at this; simpa using this
    intro prog w E Q hq
    rw [e3] at hq ⊢
    exact wpAny_eqBool_int hq

/-! methods of dict -/
theorem pair_valueAt {h : Heap} {k : Str} : ∀ {fs : Sg} {kvs : List (Str × Value)}, PairIs h fs kvs → (∃ mv v, fs.lookup k = some mv ∧ valueAt kvs k = some v ∧ Is h mv v) ∨ (fs.lookup k = none ∧ valueAt kvs k = none)
  | _, _, .nil => .inr ⟨rfl, rfl⟩
  | _, _, .cons (x := x) (mv := mv) (v := v) i r => by
    unfold valueAt
    rw [List.find?_cons, List.lookup_cons]
    by_cases q : x = k
    · subst q
      simp only [decide_true, beq_self_eq_true]
      exact .inl ⟨mv, v, rfl, rfl, i⟩
    · have e1 : (k == x) = false := beq_eq_false_iff_ne.mpr (Ne.symm q)
      simp only [q, decide_false, e1]
      exact pair_valueAt r
theorem Fn.dict_get {d : Addr} {fs : Sg} {k : Str} {dflt : MV} {post : MV → Mu → Prop} (hd : μ d = some (.dict fs)) (nd : (fs.map (·.1)).Nodup) (hs : (d == sysModules) = false) (h : post ((fs.lookup k).getD dflt) μ) :
    Fn prog w base n (.builtin "dict.get") [.ref d, .str k, dflt] [] μ post := .of3 fun A s v u x R H i j l => by
  cases i; cases j with | str _ t =>
  obtain ⟨kvs, dk, pk⟩ := DictIs.to (prog := prog) (H.objs _ _ hd) nd
  unfold EvT
  have hkey : (strKind prog w).is k (.str k t) = true := by show Value.isStrOf k (.str k t) = true; simp [Value.isStrOf]
  refine call_meetsIn PySem.F.slot_dict_get dk.typeIs PySem.F.entry_dict_get (PySem.F.args_dict_get_3 _ _ _) (meets_dict_get_default (strKind prog w) d hkey hs x) ⟨_, dk.mapOf, _, _, h, .tok H, ?_⟩
  rcases pair_valueAt (k := k) pk with ⟨mv, v, e1, e2, i⟩ | ⟨e1, e2⟩
  · rw [e1, e2]; exact i
  · rw [e1, e2]; exact l

/-! lists together -/
theorem Op.add_list {a b : Addr} {xs ys : List MV} {post : MV → Mu → Prop} (ha : μ a = some (.list xs)) (hb : μ b = some (.list ys)) (hx : xs.length ≤ 10000) (hy : ys.length ≤ 10000)
    (h : ∀ D, μ D = .none → post (.ref D) (μ.set D (.list (xs ++ ys)))) : Op2 prog w base n (binaryOp .Add) (.ref a) (.ref b) μ post := by
  intro A s va vb R H i j; cases i; cases j
  obtain ⟨vs, c, hlo, il⟩ := H.objs _ _ ha
  obtain ⟨ws, c', hlo', il'⟩ := H.objs _ _ hb
  unfold EvT
  refine concat_meets (isList_of hlo).typeIs (isList_of hlo').typeIs noFill_list_add seq_list_add PySem.F.slot_list_add PySem.F.entry_list_add (PySem.F.args_list_add_2 _ _)
    (list_addW a b vs.toArray ws.toArray c c' none none #[] #[] (by rw [List.size_toArray, List.size_toArray, il.length, il'.length, sizeLine_eq]; lia)) ⟨hlo, hlo', ?_⟩
  have kp : ∀ b o, s.heap.get? b = some o → (s.heap.push { cls := .type "list", data := .seq (vs.toArray ++ ws.toArray) }).get? b = some o := fun b o e => Heap.get?_push_of_some _ e
  exact ⟨.ref _, _, h _ (H.nomu size_none), Done.newList (t := s.toks) H size_none kp ⟨vs ++ ws, 0, by rw [Heap.get?_push_size _ rfl]; simp [W.listOf], (il.append il').keep (tupKeep_of kp)⟩, .ref _⟩
theorem mul_one_list {k : Nat} {v : Value} : ∀ {acc : Array Value}, List.foldl (fun x1 x2 => x1 ++ x2) acc (List.replicate k #[v]) = acc ++ (List.replicate k v).toArray := by
  induction k with
  | zero => intro acc; simp
  | succ k ih => intro acc; rw [List.replicate_succ, List.foldl_cons, ih, List.replicate_succ]; apply Array.ext'; simp
theorem isL_replicate {h : Heap} {m : MV} {v : Value} (i : Is h m v) : ∀ k, IsL h (List.replicate k m) (List.replicate k v)
  | 0 => .nil
  | k + 1 => .cons i (isL_replicate i k)
set_option tactic.hygienic true in
theorem Op.mul_list1 {a : Addr} {x : MV} {k : Int} {post : MV → Mu → Prop} (ha : μ a = some (.list [x])) (hk : -100000 ≤ k) (hk2 : k ≤ 100000)
    (h : ∀ D, μ D = .none → post (.ref D) (μ.set D (.list (List.replicate k.toNat x)))) : Op2 prog w base n (binaryOp .Mult) (.ref a) (.int k) μ post := by
  intro A s va vb R H i j; cases i; cases j with | int _ u =>
  obtain ⟨vs, c, hlo, il⟩ := H.objs _ _ ha
  cases il with | cons ix il =>
  cases il
  rename_i v
  unfold EvT
  refine wpAny_binaryOp_repeat_ref (T := "list") (U := "int") (by decide) ⟨_, hlo, rfl⟩ (fun s' => typeIs_int s' k u) noFill_list_mul PySem.F.fills_int_mul PySem.F.slot_int_rmul repeat_list PySem.F.slot_int_index.lookup
    (call_meets PySem.F.slot_int_rmul (typeIs_int s k u) PySem.F.entry_int_rmul (PySem.F.args_int_rmul_2 _ _) (int___rmul___int_list k u a #[v] c)
      ⟨hlo, rfl, ⟨_, hlo, rfl⟩, call_meets PySem.F.slot_list_mul ⟨_, hlo, rfl⟩ PySem.F.entry_list_mul (PySem.F.args_list_mul_2 _ _)
        (AutoListH.list___mul___list_int_3 a #[v] c k u (by simp [Builtin.List.listFitsIndex]; lia) (by have e : (#[v] : Array Value).size = 1 := rfl; simp only [e]; lia) (by
          have e : (#[v] : Array Value).size = 1 := rfl
          simp only [Builtin.List.listTooLong, sizeLine, e, Nat.one_mul]; simp; lia))
        ⟨hlo, ?_⟩⟩)
  have kp : ∀ b o, s.heap.get? b = some o → (s.heap.push { cls := .type "list", data := .seq (List.foldl (fun x1 x2 => x1 ++ x2) #[] (List.replicate (if (#[v] : Array Value).isEmpty = true then 0 else k.toNat) #[v])) }).get? b = some o := fun b o e => Heap.get?_push_of_some _ e
  exact ⟨.ref _, _, h _ (H.nomu size_none), Done.newList (t := s.toks) H size_none kp ⟨List.replicate k.toNat v, 0, by rw [Heap.get?_push_size _ rfl, mul_one_list]; simp [W.listOf], (isL_replicate ix _).keep (tupKeep_of kp)⟩, .ref _⟩
end
end Mine
namespace Mine
set_option tactic.hygienic false

section
variable {w : World} {base : Heap} {prog : Program} {n : Nat} {sc : Scope} {σ : Sg} {μ : Mu} {K : Frag}

/-- a value that only the heap tells of -/
noncomputable def EvX (prog : Program) (w : World) (base : Heap) (n : Nat) (sc : Scope) (e : Expr) (σ : Sg) (μ : Mu) (P : Mu → Value → Heap → Prop) : Prop :=
  ∀ A env s, Room n A → GEnv base sc env → HR w.params base μ s.heap → FrR sc env σ μ s.heap →
    wpAny (model prog w) A (eval e env) (fun v s' => ∃ μ', P μ' v s'.heap ∧ Done w.params base μ s μ' s') (fun zz zz => False) s
noncomputable def FnX (prog : Program) (w : World) (base : Heap) (n : Nat) (f : Value) (args : List MV) (μ : Mu) (P : Mu → Value → Heap → Prop) : Prop :=
  ∀ A s vs, Room n A → HR w.params base μ s.heap → IsL s.heap args vs →
    wpAny (model prog w) A (call f vs) (fun v s' => ∃ μ', P μ' v s'.heap ∧ Done w.params base μ s μ' s') (fun zz zz => False) s
theorem callWith_x {A : Around} {env : Env} {s : Shared} {f : Value} {first : List Value} {fms : List MV} {args : List Expr} {pos : Pos} {P : Mu → Value → Heap → Prop} (hk : noRef f = true) (hp : plainArgs args)
    (R : Room n A) (G : GEnv base sc env) (H : HR w.params base μ s.heap) (F : FrR sc env σ μ s.heap) (i : IsL s.heap fms first)
    (h : Evs prog w base n sc args σ μ (fun as μ₁ => FnX prog w base n f (fms ++ as) μ₁ P)) :
    wpAny (model prog w) A (callWith pos f first (backTo pos (starEach args env)) []) (fun v s' => ∃ μ', P μ' v s'.heap ∧ Done w.params base μ s μ' s') (fun zz zz => False) s := by
  refine callWith_of (P := fun zz => True) (by rw [hp env pos]; rfl) (fun h zz => ⟨.machine, .inr (.inl rfl), Looks.of_pure (by cases f <;> first | rfl | cases hk)⟩) (evalArgs_any (hp env pos) rfl ?_)
  refine wpAny_mono (h A env s pos R G H F) (fun vs s₁ ⟨as, μ₁, p₁, d₁, i₁⟩ => ?_) fun zz zz x => x
  refine wpAny_evalAll_nil ⟨trivial, ?_⟩
  exact wpAny_mono (p₁ A s₁ _ R d₁.hr ((d₁.isL H i).append i₁)) (fun v s₂ ⟨μ₂, p₂, d₂⟩ => ⟨μ₂, p₂, d₁.trans d₂⟩) fun zz zz e => e
theorem EvX.call_b {x p args pos f} {P : Mu → Value → Heap → Prop} (W : WF w K base) (hl : sc.names.lookup x = some .globalImplicit) (e : nsIn K mainGlobals x = some none) (hv : bootBuiltins x = some f) (hk : noRef f = true)
    (h : Evs prog w base n sc args σ μ (fun as μ₁ => FnX prog w base n f as μ₁ P))
    (hp : plainArgs args := by intro zz zz; rfl)
    (hne : x ≠ "__name__" := by decide) (hd : (x == ("__debug__" : Str)) = false := by decide) : EvX prog w base n sc (.Call (.Name x p) args [] pos) σ μ P := by
  intro A env s R G H F
  have z : Ev prog w base n sc (.Name x p) σ μ (fun a μ₁ => a = .raw f ∧ μ₁ = μ) := Ev.builtin W hl e hv (fun zz => .raw f) ⟨rfl, rfl⟩ hne hd
  refine wpAny_Call_Name_kw ((z A env s R G H F).then_ fun a μ₁ va s₁ ⟨e1, e2⟩ d₁ i₁ => ?_)
  subst e1 e2
  cases i₁
  exact wpAny_mono (callWith_x (first := []) hk hp (fms := []) R G d₁.hr (F.keep H d₁.ext) .nil h) (fun v s₂ ⟨μ₂, p₂, d₂⟩ => ⟨μ₂, p₂, d₁.trans d₂⟩) fun zz zz e => e

/-! iterators of the library -/
noncomputable def Itr.of {A₀ : Around} (h₀ : A₀.handled = none) {it : Addr} {items : List MV} {Pv : Nat → Value → Prop} {St : Nat → Heap → Prop} (W : ∀ A : Around, A.handled = none → Walks prog w A it [it] [it] items.length Pv St)
    (hP : ∀ i m v, items[i]? = some m → Pv i v → ∀ h, Is h m v) (obj : ∀ i h, St i h → ∃ o, h.get? it = some o ∧ IterObj o) (again : ∀ A s i (Q : Value → Shared → Prop), St i s.heap → Q (.ref it) s → wpAny (model prog w) A (pyIter (.ref it)) Q (fun zz zz => False) s) :
    Itr prog w base it (fun zz => True) items where
  St i h := i ≤ items.length ∧ St i h
  obj := fun i h st => obj i h st.2
  frame := fun i h h' st k => ⟨st.1, (W A₀ h₀).frame i h h' st.2 fun b hb o e => by cases List.mem_singleton.mp hb; exact k o e⟩
  again := fun A s i Q st hQ => again A s i Q st.2 hQ
  next := fun A s i μ m Q hh H hc st hm hQ => by
    have hlt : i < items.length := by
      rcases Nat.lt_or_ge i items.length with q | q
      · exact q
      · rw [List.getElem?_eq_none_iff.mpr q] at hm; cases hm
    refine (W A hh).item i s Q _ hlt st.2 fun v h' tk hv st' hk => hQ v h' tk (hP i m v hm hv h') (fun b o hb e => hk b o (fun q => hb (List.mem_singleton.mp q)) e) ⟨hlt, st'⟩
  stop := fun A s i μ Q hh H hc st hm hQ => by
    have e : i = items.length := Nat.le_antisymm st.1 (List.getElem?_eq_none_iff.mp hm)
    refine (W A hh).done s Q _ (e ▸ st.2) fun h' tk hk => hQ h' tk fun b o hb e => hk b o (fun q => hb (List.mem_singleton.mp q)) e

/-- the signs of a str -/
noncomputable def signs (x : Str) : List MV := x.cps.toList.map fun c => .str ⟨#[c]⟩
theorem iter_str_ty (x : Str) : strIterType x = "str_ascii_iterator" ∨ strIterType x = "str_iterator" := by
  unfold strIterType; split
  · exact .inl rfl
  · exact .inr rfl
theorem Itb.str {e : Expr} {post : (Mu → Prop) → List MV → Mu → Prop} (h : Ev prog w base n sc e σ μ (fun v μ₁ => ∃ x, v = .str x ∧ post (fun zz => True) (signs x) μ₁)) : Itb prog w base n sc e σ μ post := by
  intro A env s R G H F
  refine (h A env s R G H F).then_ fun v μ₁ vv s₁ ⟨x, e, p⟩ d₁ i₁ => ?_
  subst e; cases i₁ with | str _ t =>
  refine wpAny_pyIter_strU ?_
  have itn : s₁.heap.get? s₁.heap.objs.size = none := size_none
  have newI : s.heap.get? s₁.heap.objs.size = none := by
    cases q : s.heap.get? s₁.heap.objs.size with
    | none => rfl
    | some o => obtain ⟨o', e'⟩ := d₁.ext.alive _ _ q; rw [itn] at e'; cases e'
  have hP : ∀ i m v, (signs x)[i]? = some m → SignAt x i v → ∀ h, Is h m v := by
    intro i m v hm ⟨c, u, hc, e⟩ h
    subst e
    unfold signs at hm
    rw [List.getElem?_map, Array.getElem?_toList, hc] at hm
    cases hm; exact .str ..
  have hlen : (signs x).length = x.cps.size := by unfold signs; simp
  rcases iter_str_ty x with q | q
  · refine ⟨_, _, signs x, μ₁, Itr.of R.1 (it := s₁.heap.objs.size) (Pv := SignAt x) (St := fun i h => h.IsStrIter s₁.heap.objs.size "str_ascii_iterator" x t i) (fun A' hA => hlen ▸ Walks.strAscii hA _ x t) hP
      (fun i h ⟨o, ho, hc, hd⟩ => ⟨o, ho, _, _, hc, hd, by decide, by decide, by decide⟩) (fun A s i Q st hQ => wpAny_pyIter_striter_ascii st hQ), rfl, p, d₁.trans (.push d₁.hr), And.intro (Nat.zero_le _) ⟨_, Heap.get?_push_size _ rfl, by rw [q], rfl⟩, newI, d₁.hr.dead itn⟩
  · refine ⟨_, _, signs x, μ₁, Itr.of R.1 (it := s₁.heap.objs.size) (Pv := SignAt x) (St := fun i h => h.IsStrIter s₁.heap.objs.size "str_iterator" x t i) (fun A' hA => hlen ▸ Walks.strWide hA _ x t) hP
      (fun i h ⟨o, ho, hc, hd⟩ => ⟨o, ho, _, _, hc, hd, by decide, by decide, by decide⟩) (fun A s i Q st hQ => wpAny_pyIter_striter_wide st hQ), rfl, p, d₁.trans (.push d₁.hr), And.intro (Nat.zero_le _) ⟨_, Heap.get?_push_size _ rfl, by rw [q], rfl⟩, newI, d₁.hr.dead itn⟩

/-- a, a + 1, …, up to b -/
noncomputable def upto (a b : Int) : List MV := (List.range (b - a).toNat).map fun (i : Nat) => .int (a + i)
theorem rangeSize_one (a b : Int) : Builtin.Range.rangeSize a b 1 = ((b - a).toNat : Int) := by
  unfold Builtin.Range.rangeSize
  simp only [show (1 : Int) > 0 by decide, if_true]
  split <;> simp <;> lia
theorem range_fits {a b : Int} (ha1 : -1000000 ≤ a) (ha2 : a ≤ 1000000) (hb1 : -1000000 ≤ b) (hb2 : b ≤ 1000000) : (((-9223372036854775808 ≤ a ∧ a < 9223372036854775808) ∧ -9223372036854775808 ≤ b ∧ b < 9223372036854775808) ∧
    -9223372036854775808 ≤ max (b - a) 0 ∧ max (b - a) 0 < 9223372036854775808) ∧ (max (b - a) 0 = 0 ∨ -9223372036854775808 ≤ b ∧ b < 9223372036854775808) := by
  have lo : ∀ x : Int, -1000000 ≤ x → -9223372036854775808 ≤ x := fun x h => Int.le_trans (by decide) h
  have hi : ∀ x : Int, x ≤ 2000000 → x < 9223372036854775808 := fun x h => Int.lt_of_le_of_lt h (by decide)
  have a2 := hi a (Int.le_trans ha2 (by decide))
  have b2 := hi b (Int.le_trans hb2 (by decide))
  exact ⟨⟨⟨⟨lo a ha1, a2⟩, lo b hb1, b2⟩, Int.le_trans (by decide) (Int.le_max_right _ _), hi _ (Int.max_le.mpr ⟨by lia, by decide⟩)⟩, .inr ⟨lo b hb1, b2⟩⟩
inductive RangeP (post : (Mu → Prop) → List MV → Mu → Prop) (μ₁ : Mu) (v : Value) (hp : Heap) : Prop
  | mk (r : Addr) (a b : Int) (t u v' : Tok) : v = .ref r → IsRange hp r a b 1 t u v' → -1000000 ≤ a → a ≤ 1000000 → -1000000 ≤ b → b ≤ 1000000 → post (fun zz => True) (upto a b) μ₁ → RangeP post μ₁ v hp
inductive Range2P (post : (Mu → Prop) → List MV → Mu → Prop) (as : List MV) (μ₁ : Mu) : Prop
  | mk (a b : Int) : as = [.int a, .int b] → -1000000 ≤ a → a ≤ 1000000 → -1000000 ≤ b → b ≤ 1000000 → post (fun zz => True) (upto a b) μ₁ → Range2P post as μ₁
inductive Range1P (post : (Mu → Prop) → List MV → Mu → Prop) (as : List MV) (μ₁ : Mu) : Prop
  | mk (b : Int) : as = [.int b] → -1000000 ≤ b → b ≤ 1000000 → post (fun zz => True) (upto 0 b) μ₁ → Range1P post as μ₁
theorem Itb.range_of {e : Expr} {post : (Mu → Prop) → List MV → Mu → Prop} (h : EvX prog w base n sc e σ μ (RangeP post)) :
    Itb prog w base n sc e σ μ post := by
  intro A env s R G H F
  refine wpAny_mono (h A env s R G H F) (fun vv s₁ ⟨μ₁, ⟨r, a, b, t, u, v', e, hr, ha1, ha2, hb1, hb2, p⟩, d₁⟩ => ?_) fun zz zz e => e
  subst e
  have e2 := rangeSize_one a b
  refine wpAny_pyIter_range hr (by unfold Builtin.Range.small; rw [e2]; simp [Builtin.Range.rangeFitsLong]; exact range_fits ha1 ha2 hb1 hb2) ?_
  have itn : s₁.heap.get? s₁.heap.objs.size = none := size_none
  have newI : s.heap.get? s₁.heap.objs.size = none := by
    cases q : s.heap.get? s₁.heap.objs.size with
    | none => rfl
    | some o => obtain ⟨o', e'⟩ := d₁.ext.alive _ _ q; rw [itn] at e'; cases e'
  have hlen : (upto a b).length = (b - a).toNat := by unfold upto; simp
  have hP : ∀ (i : Nat) (m : MV) (v : Value), (upto a b)[i]? = some m → (∃ t, v = .int (a + i * 1) t) → ∀ h, Is h m v := by
    intro i m v hm ⟨t, e⟩ h
    subst e
    unfold upto at hm
    rw [List.getElem?_map] at hm
    rcases Nat.lt_or_ge i (b - a).toNat with q | q
    · rw [List.getElem?_range q] at hm; cases hm; rw [Int.mul_one]; exact .int ..
    · rw [List.getElem?_eq_none_iff.mpr (by simpa using q)] at hm; cases hm
  refine ⟨_, _, upto a b, μ₁, Itr.of R.1 (it := s₁.heap.objs.size) (Pv := fun i v => ∃ t, v = .int (a + i * 1) t) (St := fun i h => IsRangeIter h s₁.heap.objs.size (a + (i : Nat) * 1) (((b - a).toNat : Int) - (i : Nat)) 1)
      (fun A' hA => by rw [hlen]; exact Walks.range hA _ a 1 (b - a).toNat) hP (fun i h ho => ⟨_, ho, _, _, rfl, rfl, by decide, by decide, by decide⟩) (fun A s i Q st hQ => wpAny_pyIter_rangeiter st hQ), rfl, p, d₁.trans (.push d₁.hr), And.intro (Nat.zero_le _) ?_, newI, d₁.hr.dead itn⟩
  show IsRangeIter _ _ _ _ _
  rw [e2]
  simpa using Heap.get?_push_size _ rfl
theorem Itb.range2 {x p args pos} {post : (Mu → Prop) → List MV → Mu → Prop} (W : WF w K base) (hl : sc.names.lookup x = some .globalImplicit) (e : nsIn K mainGlobals x = some none) (hv : bootBuiltins x = some (.type "range"))
    (h : Evs prog w base n sc args σ μ (Range2P post)) (hp : plainArgs args := by intro zz zz; rfl)
    (hne : x ≠ "__name__" := by decide) (hd : (x == ("__debug__" : Str)) = false := by decide) : Itb prog w base n sc (.Call (.Name x p) args [] pos) σ μ post := by
  refine Itb.range_of (EvX.call_b W hl e hv rfl (fun A env s pp R G H F => wpAny_mono (h A env s pp R G H F) (fun vs s₁ ⟨as, μ₁, ⟨a, b, e, ha1, ha2, hb1, hb2, q⟩, d, i⟩ => ⟨as, μ₁, ?_, d, i⟩) fun zz zz e => e) hp hne hd)
  subst e
  intro A s vs R H i
  cases i with | cons i j =>
  cases j with | cons j k =>
  cases k; cases i; cases j
  exact call_range_2 ⟨μ₁, ⟨_, a, b, _, _, _, rfl, IsRange.new .., ha1, ha2, hb1, hb2, q⟩, .keeps H fun b o e => Heap.get?_push_of_some _ e⟩
theorem Itb.range1 {x p args pos} {post : (Mu → Prop) → List MV → Mu → Prop} (W : WF w K base) (hl : sc.names.lookup x = some .globalImplicit) (e : nsIn K mainGlobals x = some none) (hv : bootBuiltins x = some (.type "range"))
    (h : Evs prog w base n sc args σ μ (Range1P post)) (hp : plainArgs args := by intro zz zz; rfl)
    (hne : x ≠ "__name__" := by decide) (hd : (x == ("__debug__" : Str)) = false := by decide) : Itb prog w base n sc (.Call (.Name x p) args [] pos) σ μ post := by
  refine Itb.range_of (EvX.call_b W hl e hv rfl (fun A env s pp R G H F => wpAny_mono (h A env s pp R G H F) (fun vs s₁ ⟨as, μ₁, ⟨b, e, hb1, hb2, q⟩, d, i⟩ => ⟨as, μ₁, ?_, d, i⟩) fun zz zz e => e) hp hne hd)
  subst e
  intro A s vs R H i
  cases i with | cons i j =>
  cases j; cases i
  exact call_range_1 ⟨μ₁, ⟨_, 0, b, _, _, _, rfl, IsRange.new .., by decide, by decide, hb1, hb2, q⟩, .keeps H fun b o e => Heap.get?_push_of_some _ e⟩
end
end Mine
namespace Mine
set_option tactic.hygienic false

section
variable {w : World} {base : Heap} {prog : Program} {n : Nat} {sc : Scope} {σ : Sg} {μ : Mu} {K : Frag}

/-- a ≤ b ≤ c, as a test -/
theorem Tr.chain2 {l op₁ op₂ r₁ r₂ pos} {post : Bool → Mu → Prop}
    (h : Ev prog w base n sc l σ μ (fun a μ₁ => Ev prog w base n sc r₁ σ μ₁ (fun b μ₂ => Op2 prog w base n (compareOp op₁) a b μ₂ (fun c μ₃ => TruthT prog w base n c μ₃ (fun t μ₄ =>
      if t then Ev prog w base n sc r₂ σ μ₄ (fun d μ₅ => Op2 prog w base n (compareOp op₂) b d μ₅ (fun e μ₆ => TruthT prog w base n e μ₆ post)) else post false μ₄)))))
    (hm : lastMarks [op₁, op₂] [r₁, r₂] = false := by with_unfolding_all rfl) : Tr prog w base n sc (.Compare l [op₁, op₂] [r₁, r₂] pos) σ μ post := by
  intro A env s R G H F
  refine isTrue_chain ((h A env s R G H F).then_ fun a μ₁ va s₁ h₁ d₁ i₁ => ?_) hm
  refine test_link ((h₁.at R G H F d₁).then_ fun b μ₂ vb s₂ h₂ d₂ i₂ => ?_)
  refine (h₂ A s₂ va vb R d₂.hr (d₂.is d₁.hr i₁) i₂).then_ fun c μ₃ vc s₃ h₃ d₃ i₃ => ?_
  refine wpAny_mono (h₃ A s₃ vc R d₃.hr i₃) (fun t s₄ ⟨μ₄, p, d₄⟩ => ?_) fun zz zz e => e
  have dd := ((d₁.trans d₂).trans d₃).trans d₄
  cases t with
  | false =>
    simp only [Bool.false_eq_true, if_false] at p ⊢
    exact ⟨μ₄, p, dd⟩
  | true =>
    rw [if_pos rfl] at p ⊢
    show wpAny _ _ (do
      let rv ← holding [vb] (eval r₂ env)
      standAt pos
      let c ← operate [vb, rv] (compareOp op₂ vb rv)
      holding [c] (truthy c)) _ _ s₄
    have F₄ := F.keep H dd.ext
    refine wpAny_bind (wpAny_holding ((p A env s₄ R G d₄.hr F₄).then_ fun d μ₅ vd s₅ h₅ d₅ i₅ => ?_))
    refine wpAny_bind (wpAny_standAt ?_)
    have i₂' := d₅.is d₄.hr (d₄.is d₃.hr (d₃.is d₂.hr i₂))
    refine wpAny_bind (wpAny_operate' ((h₅ A s₅ vb vd R d₅.hr i₂' i₅).then_ fun e μ₆ ve s₆ h₆ d₆ i₆ => ?_))
    exact wpAny_holding (wpAny_mono (h₆ A s₆ ve R d₆.hr i₆) (fun b s₇ ⟨μ₇, q, d₇⟩ => ⟨μ₇, q, ((dd.trans d₅).trans d₆).trans d₇⟩) fun zz zz e => e)

theorem Ev.debug {pos} {post : MV → Mu → Prop} (h : post (.bool true) μ) : Ev prog w base n sc (.Name "__debug__" pos) σ μ post := by
  intro A env s R G H F
  have e : eval (.Name "__debug__" pos) env = (do standAt pos; debugConstant) := rfl
  unfold EvT
  rw [e]
  exact wpAny_bind (wpAny_standAt (wpAny_bind (wpAny_rule (wpAny_pure (a := Value.bool true) ⟨_, _, h, .refl H, .bool ..⟩))))

/-! an instance made -/
theorem muts_newInst {x C d : Addr} {fs : Sg} {b : Addr} (m : muts (Mu.set μ x (.inst C d fs)) b) : muts μ b ∨ b = x ∨ b = d := by
  obtain ⟨c, o, hc, q⟩ := m
  by_cases e : c = x
  · subst e
    rw [Mu.set_self] at hc; cases hc
    rcases q with q | ⟨C', fs', q⟩
    · exact .inr (.inl q)
    · cases q; exact .inr (.inr rfl)
  · rw [Mu.set_ne e] at hc; exact .inl ⟨c, o, hc, q⟩
theorem Done.newInst {P : Params} {s : Shared} {C : Addr} (H : HR P base μ s.heap) :
    Done P base μ s (μ.set (s.heap.objs.size + 1) (.inst C s.heap.objs.size [])) { s with heap := (s.heap.push emptyDict).push (instObj C s.heap.objs.size) } := by
  have kp : ∀ b o, s.heap.get? b = some o → ((s.heap.push emptyDict).push (instObj C s.heap.objs.size)).get? b = some o := fun b o e => Heap.get?_push_of_some _ (Heap.get?_push_of_some _ e)
  have n1 : s.heap.get? (s.heap.objs.size + 1) = none := by
    cases q : s.heap.get? (s.heap.objs.size + 1) with
    | none => rfl
    | some o => exact absurd (Heap.lt_size q) (Nat.not_lt.mpr (Nat.le_succ _))
  have hx : ((s.heap.push emptyDict).push (instObj C s.heap.objs.size)).get? (s.heap.objs.size + 1) = some (instObj C s.heap.objs.size) := by
    have : ((s.heap.push emptyDict).push (instObj C s.heap.objs.size)).get? (s.heap.push emptyDict).objs.size = some (instObj C s.heap.objs.size) := Heap.get?_push_size _ rfl
    rwa [Heap.size_push] at this
  have hd : ((s.heap.push emptyDict).push (instObj C s.heap.objs.size)).get? s.heap.objs.size = some (dictOf [] 0) := Heap.get?_push_of_some _ (Heap.get?_push_size _ rfl)
  have nd := H.nomu (size_none (h := s.heap))
  have nx := H.nomu n1
  have ndx : s.heap.objs.size ≠ s.heap.objs.size + 1 := Nat.ne_of_lt (Nat.lt_succ_self _)
  refine ⟨⟨fun b o e => kp _ _ (H.stays b o e), fun a o e => ?_, fun b m => ?_, fun b C' d' fs' q => ?_⟩, ⟨fun b o e zz => kp b o e, fun b m => ?_, fun b o e => ⟨o, kp b o e⟩⟩, rfl, rfl⟩
  · by_cases q : a = s.heap.objs.size + 1
    · subst q; rw [Mu.set_self] at e; cases e; exact ⟨hx, [], 0, hd, .nil⟩
    · rw [Mu.set_ne q] at e; exact (H.objs a o e).keeps kp
  · rcases muts_newInst m with m | rfl | rfl
    · exact H.fresh b m
    · exact H.base_none n1
    · exact H.base_none size_none
  · by_cases hb : b = s.heap.objs.size + 1
    · subst hb; rw [Mu.set_self] at q; cases q
      refine ⟨by rw [Mu.set_ne ndx]; exact nd, fun a' C'' fs'' z => ?_⟩
      by_cases ha : a' = s.heap.objs.size + 1
      · exact ha
      · rw [Mu.set_ne ha] at z
        exact absurd ⟨a', _, z, .inr ⟨_, _, rfl⟩⟩ (H.dead size_none)
    · rw [Mu.set_ne hb] at q
      obtain ⟨q1, q2⟩ := H.apart b _ _ _ q
      refine ⟨?_, fun a' C'' fs'' z => ?_⟩
      · by_cases hd : d' = s.heap.objs.size + 1
        · subst hd; exact absurd ⟨b, _, q, .inr ⟨_, _, rfl⟩⟩ (H.dead n1)
        · rw [Mu.set_ne hd]; exact q1
      · by_cases ha : a' = s.heap.objs.size + 1
        · subst ha; rw [Mu.set_self] at z; cases z
          exact absurd ⟨b, _, q, .inr ⟨_, _, rfl⟩⟩ (H.dead size_none)
        · rw [Mu.set_ne ha] at z; exact q2 _ _ _ z
  · rcases muts_newInst m with m | rfl | rfl
    · exact .inl m
    · exact .inr n1
    · exact .inr size_none

theorem under_type_call (A : Around) (C : Addr) (vals : List Value) (kw : List (Str × Value)) : (A.under (.builtin "type.__call__" ⟨.ref C :: vals, kw⟩)).handled = A.handled ∧ (A.under (.builtin "type.__call__" ⟨.ref C :: vals, kw⟩)).depth ≤ A.depth + 1 ∧
    (A.under (.builtin "type.__call__" ⟨.ref C :: vals, kw⟩)).units ≤ A.units + 10 := by
  refine ⟨rfl, Nat.le_of_eq (depth_under_kw A C vals kw), ?_⟩
  show A.units + Code.cUnits _ ≤ A.units + 10
  have : Code.cUnits (.builtin "type.__call__" ⟨.ref C :: vals, kw⟩) = 1 := rfl
  lia

/-- a class, called -/
noncomputable def makeIn (K : Frag) (C fI : Addr) : Bool := makesIn K C && (findIn K (.ref C) "__init__" == some (some (.ref fI))) && (typeIn K (.ref fI) == some (.type "function"))
theorem Fn.make {C fI : Addr} {args : List MV} {kw : Sg} {post : MV → Mu → Prop} (W : WF w K base) (hm : makeIn K C fI = true)
    (h : ∀ x d, μ x = none → μ d = none → FnC prog w base n (.ref fI) (.ref x :: args) kw (μ.set x (.inst C d [])) (fun r μ' => r = .none ∧ post (.ref x) μ')) : Fn prog w base (n + 1) (.ref C) args kw μ post := by
  intro A s vs kvs R H i j
  unfold makeIn at hm
  obtain ⟨hm, hf⟩ := Bool.and_eq_true_iff.mp hm
  obtain ⟨hm, hi⟩ := Bool.and_eq_true_iff.mp hm
  have X := W.kin.keeps H.stays
  have n1 : s.heap.get? (s.heap.objs.size + 1) = none := by
    cases q : s.heap.get? (s.heap.objs.size + 1) with
    | none => rfl
    | some o => exact absurd (Heap.lt_size q) (Nat.not_lt.mpr (Nat.le_succ _))
  have d₀ := Done.newInst (C := C) H
  have kp : ∀ b o, s.heap.get? b = some o → ((s.heap.push emptyDict).push (instObj C s.heap.objs.size)).get? b = some o := fun b o e => Heap.get?_push_of_some _ (Heap.get?_push_of_some _ e)
  unfold EvT
  refine wpAny_call ?_
  obtain ⟨hh, g, dr, t, os⟩ := s
  refine make_core (makes_of X hm) (looks_findIn X (beq_iff_eq.mp hi)) (fun self => bind_fn X self (beq_iff_eq.mp hf)) (.inl rfl) ?_
  obtain ⟨u1, u2, u3⟩ := under_type_call A C vs ((kw.map (·.1)).zip kvs)
  have R' : Room n (A.under (.builtin "type.__call__" ⟨.ref C :: vs, (kw.map (·.1)).zip kvs⟩)) := ⟨u1.trans R.1, by have := R.2.1; lia, by have := R.2.2; lia⟩
  have z := h (hh.objs.size + 1) hh.objs.size (H.nomu n1) (H.nomu size_none) _ _ (.ref (hh.objs.size + 1) :: vs) kvs R' d₀.hr (.cons (.ref _) (i.keep (tupKeep_of kp))) (j.keep (tupKeep_of kp))
  refine codeAny_mono z fun r s' hr => ?_
  rcases r with e | (v | _ | _ | _)
  · exact hr.elim
  · exact hr.elim
  · exact hr.elim
  · exact hr.elim
  · obtain ⟨mv, μ', ⟨e, p⟩, d, i'⟩ := hr
    subst e
    cases i'
    exact ⟨rfl, _, _, p, d₀.trans d, .ref _⟩
end
end Mine
namespace Mine
set_option tactic.hygienic false

/-! a search for a sign out of a set, that finds none -/
noncomputable def NoneOf (code text : Array Nat) : Prop := ∀ i, i < text.size → ∀ seen, ∃ seen', Sre.inSet code (text.getD i 0) code.size 5 true seen = .ok (false, seen')
theorem admitted_none (m : Sre.M) (h : NoneOf m.code m.text) (hl : m.lim ≤ m.text.size) : ∀ (fuel s : Nat) (seen : Sre.Seen), ∃ seen', Sre.M.admitted m fuel s seen = .ok (none, seen')
  | 0, _, seen => ⟨seen, rfl⟩
  | fuel + 1, s, seen => by
    unfold Sre.M.admitted
    by_cases q : s ≥ m.lim
    · rw [if_pos q]; exact ⟨_, rfl⟩
    · rw [if_neg q]
      obtain ⟨seen', e⟩ := h s (by lia) seen
      rw [e]
      exact admitted_none m h hl fuel (s + 1) seen'

theorem search_none {code text : Array Nat} {g : Nat} (hs : ((match Sre.ops[code.getD 0 0]? with | some .INFO => true | _ => false) && code.getD 2 0 == 4) = true) (h : NoneOf code text) :
    (Sre.forSearch code text g 0 text.size false).answer = some false ∧ (Sre.forSearch code text g 0 text.size false).frames = [] ∧ (Sre.forSearch code text g 0 text.size false).outcome = none := by
  unfold Sre.forSearch
  dsimp only
  by_cases q : 0 > text.size ∨ text.size - 0 < (Sre.header code).1
  · rw [if_pos (by simpa using q)]; exact ⟨rfl, rfl, rfl⟩
  · rw [if_neg (by simpa using q)]
    unfold Sre.M.attemptFrom
    rw [if_neg (by
      show ¬ (!Sre.M.hasFirstSet _) = true
      unfold Sre.M.hasFirstSet
      have : ∀ b : Bool, b = true → ¬ (!b) = true := by intro b hb; simp [hb]
      exact this _ hs)]
    generalize hm : (Sre.M.mk _ _ _ _ _ _ _ _ _ _ _ _ _ _ _ _ _ _ _ _ _) = m
    obtain ⟨seen', e⟩ := admitted_none m (by subst hm; exact h) (by subst hm; exact Nat.le_refl _) (m.lim + 1 - 0) 0 m.seen
    rw [e]
    subst hm
    exact ⟨rfl, rfl, rfl⟩
theorem runFor_failed {m : Sre.M} (ha : m.answer = some false) (hf : m.frames = []) (ho : m.outcome = none) : ∃ m', m.runFor 4 = m' ∧ m'.outcome = some .failed := by
  have e : m.step = { m with outcome := some .failed } := by
    unfold Sre.M.step
    rw [ho]
    simp only [Option.isSome_none, Bool.false_eq_true, if_false]
    rw [ha, hf]; rfl
  refine ⟨_, rfl, ?_⟩
  unfold Sre.M.runFor
  rw [ho]
  simp only [Option.isSome_none, Bool.false_eq_true, if_false]
  rw [e]
  unfold Sre.M.runFor
  simp

section
variable {w : World} {base : Heap} {prog : Program} {n : Nat} {sc : Scope} {σ : Sg} {μ : Mu} {K : Frag}

theorem reRun_none {A : Around} {E : Value → Shared → Prop} {s : Shared} {m : Sre.M} {Q : Option Sre.M → Shared → Prop} (ha : m.answer = some false) (hf : m.frames = []) (ho : m.outcome = none) (h : Q none s) :
    wpAny (model prog w) A (Builtin.Re.reRunToEnd m) Q E s := by
  obtain ⟨m', e, ho'⟩ := runFor_failed ha hf ho
  unfold Builtin.Re.reRunToEnd
  refine wpAny_bind ?_
  rw [show (2 ^ 64 : Nat) = (2 ^ 64 - 1) + 1 from rfl]
  unfold Builtin.Re.reDrive
  dsimp only
  rw [show Builtin.Re.reTurnSteps = 4 from rfl, e, ho']
  simp only [Option.isSome_some, if_true]
  refine wpAny_pure (wpAny_bind ?_)
  refine wpAny_forIn_list _ (fun zz zz s' => s' = s) _ (fun x rest b s' e => ?_) (fun b s' e => ?_) _ _ rfl
  · subst e
    refine wpAny_ite ?_
    split
    · exact wpAny_bind (wpAny_rule (wpAny_pure rfl))
    · exact wpAny_pure rfl
  · subst e
    rw [ho']
    exact wpAny_pure h

theorem slot_search : Slot "re.Pattern" "search" "re.Pattern.search" :=
  .of (owner := "re.Pattern") (n := "search") (by rw [typeLookup_type, builtinLookup_eq_fast]; kernel_rfl) (by decide +kernel) (by decide +kernel) (by decide +kernel)
    (by first | exact .inl (by decide +kernel) | exact .inr (by decide +kernel)) (by rw [isSubtype_type]; kernel_rfl)
theorem entry_search : entryFor table "re.Pattern.search" = some Builtin.«re.Pattern.search» := entryFor_of_tree (by kernel_rfl)
theorem type_search : typeOf (.builtin "re.Pattern.search") = pure (.type "method_descriptor") := by show builtinType _ = _; rw [builtinType_eq_fast]; kernel_rfl
theorem plain_pattern : PlainAttrs "re.Pattern" :=
  ⟨⟨"object.__getattribute__", by rw [typeLookup_type, builtinLookup_eq_fast]; kernel_rfl, by decide +kernel⟩, by rw [typeLookup_type, builtinLookup_eq_fast]; kernel_rfl⟩
theorem args_search (a b : Value) : argsOk "re.Pattern.search" ⟨[a, b], []⟩ := by unfold argsOk; kernel_rfl
end
end Mine
namespace Mine
set_option tactic.hygienic false

section
variable {w : World} {base : Heap} {prog : Program} {n : Nat} {sc : Scope} {σ : Sg} {μ : Mu} {K : Frag}

/-- a pattern of the top -/
structure PatIn (K : Frag) (p : Addr) (code : Array Nat) : Prop where
  at_ : ∃ vs osl q items nq cq dq sq, K.lookup p = some ⟨.type "re.Pattern", none, .fields vs, osl⟩ ∧ Builtin.Re.reRawNat (vs.getD 6 .none) = 0 ∧ vs.getD 5 .none = .ref q ∧
    K.lookup q = some ⟨cq, dq, .seq items nq, sq⟩ ∧ (items.map Builtin.Re.reRawOf).map (·.toNat) = code
theorem BM.pat {p : Addr} {code : Array Nat} (W : WF w K base) (hp : PatIn K p code) : BM w base (.raw (.ref p)) "search" "re.Pattern.search" μ := by
  intro s va H i; cases i
  obtain ⟨vs, osl, q, items, nq, cq, dq, sq, h1, _⟩ := hp.at_
  have X := W.kin.keeps H.stays
  exact ⟨"re.Pattern", plain_pattern, slot_search, type_search, ⟨_, X _ _ h1, rfl⟩, fun zz e => by cases e; exact ⟨_, X _ _ h1, rfl⟩⟩

theorem Fn.search {p : Addr} {code : Array Nat} {x : Str} {post : MV → Mu → Prop} (W : WF w K base) (hp : PatIn K p code) (hs : ((match Sre.ops[code.getD 0 0]? with | some .INFO => true | _ => false) && code.getD 2 0 == 4) = true)
    (hx : NoneOf code x.cps) (hz : x.length ≤ 100000) (h : post .none μ) : Fn prog w base n (.builtin "re.Pattern.search") [.raw (.ref p), .str x] [] μ post := .of2 fun A s v u R H i j => by
  cases i; cases j with | str _ t =>
  obtain ⟨vs, osl, q, items, nq, cq, dq, sq, h1, h2, h3, h4, h5⟩ := hp.at_
  have X := W.kin.keeps H.stays
  unfold EvT
  refine wpAny_call_entry slot_search ⟨_, X _ _ h1, rfl⟩ entry_search ?_ (args_search _ _)
  unfold Builtin.«re.Pattern.search»
  refine wpAny_bind ?_
  unfold Builtin.Re.reTarget
  refine wpAny_bind (wpAny_of_eq (show Builtin.Re.reNamed "re.Pattern.search" "search" ["string", "pos", "endpos"] 1 [Value.str x t] [] = pure [some (Value.str x t), none, none] from rfl) ?_)
  dsimp only
  refine wpAny_bind (wpAny_pure (wpAny_bind (wpAny_pure (wpAny_bind (wpAny_fieldsOf (X _ _ h1) rfl ?_)))))
  refine wpAny_bind (m := Builtin.Re.reTextOf (.str x t)) (wpAny_pure (a := (x.cps, 0)) ?_)
  dsimp only
  rw [h2]
  simp only [beq_self_eq_true, Bool.true_and, Bool.and_true]
  rw [if_neg (by decide)]
  refine wpAny_bind (wpAny_pure ?_)
  rw [h3]
  refine wpAny_bind ?_
  unfold Builtin.Re.reRawItems
  refine wpAny_bind (wpAny_seqItems (X _ _ h4) rfl (wpAny_pure ?_))
  refine wpAny_pure ?_
  have hlim : min ((2 : Int) ^ 63 - 1).toNat x.cps.size = x.cps.size := by
    have : x.cps.size ≤ 100000 := hz
    have e : ((2 : Int) ^ 63 - 1).toNat = 9223372036854775807 := by decide
    lia
  have hpos : min (Int.toNat 0) x.cps.size = 0 := Nat.zero_min _
  simp only [Option.getD_some, h5]
  rw [hlim, hpos]
  obtain ⟨e1, e2, e3⟩ := search_none (g := Builtin.Re.reRawNat (vs.getD 2 .none)) hs hx
  unfold Builtin.Re.reAnswer
  refine wpAny_bind (reRun_none e1 e2 e3 ?_)
  exact wpAny_pure ⟨.none, rfl, .none, _, h, .refl H, .none⟩
end
end Mine
namespace Mine
set_option tactic.hygienic false

section
variable {w : World} {base : Heap} {prog : Program} {n : Nat} {sc : Scope} {σ : Sg} {μ : Mu} {K : Frag}

/-- an attribute of a class -/
theorem Ev.clsattr {o name pos} {C : Addr} {v : Value} {mv : MV} {mc : Value} {post : MV → Mu → Prop} (W : WF w K base) (hr : readsIn K C mc = true) (e : findCls K (.ref C) mc name = some (.val v)) (hh : handedIn v = true) (hi : ∀ h, Is h mv v)
    (h : Ev prog w base n sc o σ μ (fun ov μ₁ => ov = .raw (.ref C) ∧ post mv μ₁))
    (he : ∀ env, eval (.Attribute o name pos) env = (do
      let ov ← eval o env
      standAt pos.atName
      let r ← holding [ov] (getAttr ov name true)
      letTemporaryGo o ov r
      pure r) := by intro _; with_unfolding_all rfl) : Ev prog w base n sc (.Attribute o name pos) σ μ post := by
  intro A env s R G H F
  refine Attribute_any_ ((h A env s R G H F).then_ fun ov μ₁ va s₁ ⟨e1, h₁⟩ d₁ i₁ => ?_) (he env)
  subst e1; cases i₁
  exact cls_value (W.kin.keeps d₁.hr.stays) hr e hh ⟨_, _, h₁, d₁.trans (.tok d₁.hr), hi _⟩

set_option tactic.hygienic true in
/-- sep.join(strs) -/
theorem Fn.join {l : Addr} {sep : Str} {ns : List Str} {post : MV → Mu → Prop} (hl : μ l = some (.list (ns.map .str))) (hz : Builtin.Str.tooLong (ns.toArray.foldl (· + ·.length + sep.length) 0) = false)
    (hg : (Builtin.Str.glued sep ns).length ≤ 100000) (h : post (.str (Builtin.Str.glued sep ns)) μ) : Fn prog w base n (.builtin "str.join") [.str sep, .ref l] [] μ post := .of2 fun A s v u R H i j => by
  cases i with | str _ t =>
  cases j
  obtain ⟨vs, c, hlo, il⟩ := H.objs _ _ hl
  have key : ∀ {ns : List Str} {vs : List Value}, IsL s.heap (ns.map .str) vs → ∃ l : List (Str × Tok), strValues l = vs ∧ l.map (·.1) = ns := by
    intro ns
    induction ns with
    | nil => intro vs i; cases i; exact ⟨[], rfl, rfl⟩
    | cons a r ih =>
      intro vs i
      cases i with | cons i j =>
      cases i with | str _ t =>
      obtain ⟨l, e1, e2⟩ := ih j
      exact ⟨(a, t) :: l, by unfold strValues at *; rw [List.map_cons, e1], by rw [List.map_cons, e2]⟩
  obtain ⟨l', e1, e2⟩ := key il
  unfold EvT
  refine call_meets PySem.F.slot_str_join (typeIs_str _ _ _) PySem.F.entry_str_join (PySem.F.args_str_join_2 _ _) (meets_str_join_list sep t _ l' (by rw [e2]; exact hz)) ⟨by rw [e1]; exact isList_of hlo, ?_⟩
  unfold joinMade
  split
  · rename_i p
    have : Builtin.Str.glued sep ns = p.1 := by
      rw [← e2]; unfold Builtin.Str.glued; simp
    show ERes w base μ s post _ _
    exact ⟨.str p.1, _, this ▸ h, .refl H, .str ..⟩
  · refine ⟨?_, _, _, h, .tok H, ?_⟩
    · show (Builtin.Str.glued sep (l'.map (·.1))).length ≤ sizeLine
      rw [e2, sizeLine_eq]; lia
    · rw [e2]; exact .str ..

/-! what asks that a token has been made -/
theorem EvL.binop {m : Nat} {l op r pos} {post : MV → Mu → Prop} (h : EvL m prog w base n sc l σ μ (fun a μ₁ => Ev prog w base n sc r σ μ₁ (fun b μ₂ => Op2 prog w base n (binaryOp op) a b μ₂ post))) :
    EvL m prog w base n sc (.BinOp l op r pos) σ μ post := by
  intro A env s t R G H F
  refine wpAny_BinOp ((h A env s t R G H F).then_ fun a μ₁ va s₁ h₁ d₁ i₁ => (h₁.at R G H F d₁).then_ fun b μ₂ vb s₂ h₂ d₂ i₂ => ?_)
  exact EvT.from (d₁.trans d₂) (h₂ A s₂ va vb R d₂.hr (d₂.is d₁.hr i₁) i₂)

/-- x.replace(a, b), of two constants -/
theorem EvL.replace {o apos k1 p1 k2 p2 pos} {a b : Str} {post : MV → Mu → Prop} (hab : (a == b) = false)
    (h : EvX prog w base n sc o σ μ (fun μ₁ v zz => ∃ x t, v = .str x t ∧ x.length ≤ 10000 ∧ b.length ≤ 1000 ∧ ((Builtin.Str.occurrences x a 0 x.length (x.length + 1)).isEmpty || (a.length == 0 && b.length == 0)) = false ∧
      (Builtin.Str.occurrences x a 0 x.length (x.length + 1)).length ≤ 10000 ∧ (Builtin.Str.glued b (Builtin.Str.partsBetween x (Builtin.Str.occurrences x a 0 x.length (x.length + 1)) a.length)).length ≤ 10000 ∧
      post (.str (Builtin.Str.glued b (Builtin.Str.partsBetween x (Builtin.Str.occurrences x a 0 x.length (x.length + 1)) a.length))) μ₁))
    (he : ∀ env, ∃ pl, eval (.Call (.Attribute o "replace" apos) [.Constant (.str a) k1 p1, .Constant (.str b) k2 p2] [] pos) env = (do
      let ov ← eval o env
      standAt apos.atName
      let (f, first) ← holding [ov] (getMethod ov "replace" pl)
      callWith pos f first (backTo pos (starEach [.Constant (.str a) k1 p1, .Constant (.str b) k2 p2] env)) []) := by intro _; exact ⟨_, rfl⟩) :
    EvL 1 prog w base n sc (.Call (.Attribute o "replace" apos) [.Constant (.str a) k1 p1, .Constant (.str b) k2 p2] [] pos) σ μ post := by
  intro A env s ht R G H F
  obtain ⟨pl, he⟩ := he env
  unfold EvT
  refine methodCall_KW (wpAny_with_toks (n := 1) ht (wpAny_mono (h A env s R G H F) (fun ov s₁ ⟨μ₁, ⟨x, t, e, hx, hb, ho, hn, hg, p⟩, d₁⟩ ht₁ => ?_) fun zz zz e => e.elim)) he
  subst e
  refine getMethod_builtin (typeIs_str _ _ _) PySem.F.plainAttrs_str PySem.F.slot_str_replace PySem.F.type_str_replace (fun zz e => nomatch e) ?_
  refine callWith_of (P := fun zz => True) rfl (fun h zz => ⟨.machine, .inr (.inl rfl), Looks.of_pure rfl⟩) (evalArgs_any rfl rfl ?_)
  refine spliced_cons (Constant_str (k := k1) (pos := p1) ?_)
  refine spliced_cons (Constant_str (k := k2) (pos := p2) ?_)
  refine spliced_nil (wpAny_evalAll_nil ⟨trivial, ?_⟩)
  refine call_gives PySem.F.slot_str_replace (typeIs_str _ _ _) PySem.F.entry_str_replace (PySem.F.args_str_replace_3 _ _ _) (gives_str_replace x a b t s₁.toks (s₁.toks + 1) fun zz => ⟨?_, ?_, hab, ?_⟩) ?_
  · have h1 : (s₁.toks == 0) = false := beq_eq_false_iff_ne.mpr (Nat.ne_of_gt ht₁)
    have h2 : (s₁.toks + 1 == 0) = false := beq_eq_false_iff_ne.mpr (Nat.succ_ne_zero _)
    rw [h1, h2]; rfl
  · exact beq_eq_false_iff_ne.mpr (Nat.ne_of_lt (Nat.lt_succ_self _))
  · unfold Builtin.Str.tooLong
    refine decide_eq_false ?_
    rw [sizeLine_eq]
    have : (Builtin.Str.occurrences x a 0 x.length (x.length + 1)).length * b.length ≤ 10000 * 1000 := Nat.mul_le_mul hn hb
    lia
  · rw [ho, if_neg Bool.false_ne_true]
    refine ⟨?_, _, _, p, d₁.trans ⟨d₁.hr, .refl, rfl, rfl⟩, .str ..⟩
    rw [sizeLine_eq]; lia
end
end Mine
namespace Mine
set_option tactic.hygienic false

section
variable {w : World} {base : Heap} {prog : Program} {n : Nat} {sc : Scope} {σ : Sg} {μ : Mu} {K : Frag}

theorem EvL.listcomp {m : Nat} {elt t iter ifs scope pos} {post : MV → Mu → Prop} (hok : compOk scope sc = true)
    (h : Itb prog w base n sc iter σ μ (fun cond items μ₁ => CLoopL m prog w base n (relab scope sc) t ifs elt cond (fun acc μ₂ => ∀ D, μ₂ D = .none → post (.ref D) (μ₂.set D (.list acc))) items [] (capt scope sc σ) μ₁))
    (hs : ∀ env x, foldedSetIterable iter env x = pure x := by intro zz zz; rfl) : EvL m prog w base n sc (.ListComp elt [⟨t, iter, ifs, 0⟩] scope pos) σ μ post := by
  intro A env s hm R G H F
  unfold EvT
  rw [eval_ListComp]
  obtain ⟨hkind, hnames⟩ := names_of_ok hok
  refine wpAny_comprehension_free (use := none) rfl (hs env) (closureFor_ok hok G) hkind hnames (wpAny_with_toks (n := m) hm (wpAny_mono (h A env s R G H F) (fun xv s₁ h₁ hm₁ => wpAny_with_toks (n := m) hm₁ (wpAny_mono h₁ (fun itv s₂ h₂ hm₂ => ?_) fun zz zz e => e.elim)) fun zz zz e => e.elim))
  obtain ⟨it, cond, items, μ₁, J, rfl, loop, d₁, st₀, new, nm₀⟩ := h₂
  exact comp_coreL hok J hm₂ R G H F d₁ st₀ new nm₀ loop (fun D C acc μ' s' p c => by
      obtain ⟨m, hn⟩ := c.ns
      refine ⟨m, hn, fun h' hs' => ⟨.ref D, _, p D c.noD, c.fin H hn hs', .ref D⟩⟩)
end
end Mine
namespace Mine
set_option tactic.hygienic false

section
variable {w : World} {base : Heap} {prog : Program} {n : Nat} {sc : Scope} {σ : Sg} {μ : Mu} {K : Frag}

/-- ''.join(e): the text is made first -/
theorem Ev.join_const {sep kk p apos e pos} {post : MV → Mu → Prop}
    (h : EvL 1 prog w base n sc e σ μ (fun a μ₁ => Fn prog w base n (.builtin "str.join") [.str sep, a] [] μ₁ post))
    (hse : ∀ env, starEach [e] env = [(false, eval e env)] := by intro zz; rfl)
    (he : ∀ env, ∃ pl, eval (.Call (.Attribute (.Constant (.str sep) kk p) "join" apos) [e] [] pos) env = (do
      let ov ← eval (.Constant (.str sep) kk p) env
      standAt apos.atName
      let (f, first) ← holding [ov] (getMethod ov "join" pl)
      callWith pos f first (backTo pos (starEach [e] env)) []) := by intro _; exact ⟨_, rfl⟩) :
    Ev prog w base n sc (.Call (.Attribute (.Constant (.str sep) kk p) "join" apos) [e] [] pos) σ μ post := by
  intro A env s R G H F
  obtain ⟨pl, he⟩ := he env
  unfold EvT
  refine methodCall_KW (Constant_str (k := kk) (pos := p) ?_) he
  refine getMethod_builtin (typeIs_str _ _ _) PySem.F.plainAttrs_str PySem.F.slot_str_join PySem.F.type_str_join (fun zz e => nomatch e) ?_
  rw [hse]
  refine callWith_of (P := fun zz => True) rfl (fun h zz => ⟨.machine, .inr (.inl rfl), Looks.of_pure rfl⟩) (evalArgs_any rfl rfl ?_)
  have H₁ : HR w.params base μ ({ s with toks := s.toks + 1 } : Shared).heap := H
  refine spliced_cons ((h A env { s with toks := s.toks + 1 } (Nat.succ_le_succ (Nat.zero_le _)) R G H₁ F).then_ fun a μ₁ va s₁ h₁ d₁ i₁ => ?_)
  refine spliced_nil (wpAny_evalAll_nil ⟨trivial, ?_⟩)
  have d₀ : Done w.params base μ s μ { s with toks := s.toks + 1 } := .tok H
  exact EvT.from (d₀.trans d₁) (h₁ A s₁ [.str sep s.toks, va] [] R d₁.hr (.cons (.str ..) (.cons i₁ .nil)) .nil)

noncomputable def EvX2 (prog : Program) (w : World) (base : Heap) (n : Nat) (sc : Scope) (e : Expr) (σ : Sg) (μ : Mu) (P : Shared → Mu → Value → Shared → Prop) : Prop :=
  ∀ A env s, Room n A → GEnv base sc env → HR w.params base μ s.heap → FrR sc env σ μ s.heap →
    wpAny (model prog w) A (eval e env) (fun v s₂ => ∃ μ₁ s₁, Done w.params base μ s μ₁ s₁ ∧ P s₁ μ₁ v s₂) (fun zz zz => False) s
theorem EvX2.call_b {x p args pos f} {P : Shared → Mu → Value → Shared → Prop} (W : WF w K base) (hl : sc.names.lookup x = some .globalImplicit) (e : nsIn K mainGlobals x = some none) (hv : bootBuiltins x = some f) (hk : noRef f = true)
    (h : Evs prog w base n sc args σ μ (fun as μ₁ => ∀ A s₁ vs, Room n A → HR w.params base μ₁ s₁.heap → IsL s₁.heap as vs → wpAny (model prog w) A (call f vs) (fun v s₂ => P s₁ μ₁ v s₂) (fun zz zz => False) s₁))
    (hp : plainArgs args := by intro zz zz; rfl)
    (hne : x ≠ "__name__" := by decide) (hd : (x == ("__debug__" : Str)) = false := by decide) : EvX2 prog w base n sc (.Call (.Name x p) args [] pos) σ μ P := by
  intro A env s R G H F
  have z : Ev prog w base n sc (.Name x p) σ μ (fun a μ₁ => a = .raw f ∧ μ₁ = μ) := Ev.builtin W hl e hv (fun zz => .raw f) ⟨rfl, rfl⟩ hne hd
  refine wpAny_Call_Name_kw ((z A env s R G H F).then_ fun a μ₁ va s₁ ⟨e1, e2⟩ d₁ i₁ => ?_)
  subst e1 e2
  cases i₁
  refine callWith_of (P := fun zz => True) (by rw [hp env pos]; rfl) (fun h zz => ⟨.machine, .inr (.inl rfl), Looks.of_pure (by cases f <;> first | rfl | cases hk)⟩) (evalArgs_any (hp env pos) rfl ?_)
  refine wpAny_mono (h A env s₁ pos R G d₁.hr (F.keep H d₁.ext)) (fun vs s₂ ⟨as, μ₂, p₁, d₂, i₁⟩ => ?_) fun zz zz x => x
  refine wpAny_evalAll_nil ⟨trivial, ?_⟩
  exact wpAny_mono (p₁ A s₂ _ R d₂.hr i₁) (fun v s₃ q => ⟨μ₂, s₂, d₁.trans d₂, q⟩) fun zz zz e => e

noncomputable def enumL : List MV → Nat → List MV
  | [], _ => []
  | x :: r, i => .tup [.int i, x] :: enumL r (i + 1)

inductive EnumI (items : List MV) (P : List MV → Sg → Mu → Prop) (Q : Mu → Shared → Prop) (R : Sg → Mu → Heap → Prop) (it l : Addr) (k : Nat) (s' : Shared) : Prop
  | mk (done rest : List MV) (σ' : Sg) (μ' : Mu) (ei : items = done ++ rest) (hk : rest.length = k) (lp : P (enumL rest done.length) σ' μ') (d : Q μ' s') (F : R σ' μ' s'.heap)
    (he : ∃ old, IsEnum s'.heap (it + 1) it (done.length : Int) old) (hl : s'.heap.IsListIter it l done.length) (nm : ¬ muts μ' it) (nmd : ¬ muts μ' (it + 1))

theorem Ex.for_enum {elts k tp x p arg cpos body pos} {post : MF → Sg → Mu → Prop} (W : WF w K base) (hlx : sc.names.lookup x = some .globalImplicit) (ex : nsIn K mainGlobals x = some none) (hvx : bootBuiltins x = some (.type "enumerate"))
    (h : Evs prog w base n sc [arg] σ μ (fun as μ₁ => ∃ l items, as = [.ref l] ∧ μ₁ l = some (.list items) ∧
      Loop prog w base n sc (.Tuple elts k tp) body (fun μ => μ l = some (.list items)) post (enumL items 0) σ μ₁))
    (hp : plainArgs [arg] := by intro zz zz; rfl)
    (hne : x ≠ "__name__" := by decide) (hdb : (x == ("__debug__" : Str)) = false := by decide)
    (hs : ∀ env v, foldedSetIterable (.Call (.Name x p) [arg] [] cpos) env v = pure v := by intro zz zz; rfl) :
    Ex prog w base n sc (.For (.Tuple elts k tp) (.Call (.Name x p) [arg] [] cpos) body [] pos) σ μ post := by
  intro A env s R G H F
  have key : EvX2 prog w base n sc (.Call (.Name x p) [arg] [] cpos) σ μ (fun s₁ μ₁ v s₂ => ∃ l items, μ₁ l = some (.list items) ∧ Loop prog w base n sc (.Tuple elts k tp) body (fun μ => μ l = some (.list items)) post (enumL items 0) σ μ₁ ∧
      v = .ref (s₁.heap.objs.size + 1) ∧ IsEnum s₂.heap (s₁.heap.objs.size + 1) s₁.heap.objs.size 0 .none ∧ s₂.heap.IsListIter s₁.heap.objs.size l 0 ∧ (∀ b o, s₁.heap.get? b = some o → s₂.heap.get? b = some o) ∧ s₂.gens = s₁.gens ∧ s₂.os = s₁.os ∧ HR w.params base μ₁ s₁.heap) := by
    refine EvX2.call_b W hlx ex hvx rfl (fun A env s pp R G H F => wpAny_mono (h A env s pp R G H F) (fun vs s₁ ⟨as, μ₁, ⟨l, items, e, hl, lp⟩, d, i⟩ => ⟨as, μ₁, ?_, d, i⟩) fun zz zz e => e) hp hne hdb
    subst e
    intro A s₁ vs R H₁ i
    cases i with | cons i j =>
    cases j; cases i
    obtain ⟨ws, c, hlo, il⟩ := H₁.objs _ _ hl
    exact call_enumerate_list (isList_of hlo) fun h' he hit hz kp => ⟨l, items, hl, lp, rfl, he, hit, kp, rfl, rfl, H₁⟩
  refine wpAny_For (wpAny_mono (key A env s R G H F) (fun v s₂ h₁ => ?_) fun zz zz e => e.elim) (hs env)
  obtain ⟨μ₁, s₁, d₁, l, items, hl, loop, rfl, he, hit, kp, eg, eo, H₁⟩ := h₁
  refine wpAny_pyIter_enum he ?_
  have F₁ := F.keep H d₁.ext
  generalize hI : s₁.heap.objs.size = it at *
  have nit : s₁.heap.get? it = none := by rw [← hI]; exact size_none
  have ne : s₁.heap.get? (it + 1) = none := by
    cases q : s₁.heap.get? (it + 1) with
    | none => rfl
    | some o => have := Heap.lt_size q; rw [hI] at this; exact absurd this (Nat.not_lt.mpr (Nat.le_succ _))
  have hei : it + 1 ≠ it := Nat.succ_ne_self _
  have d₂ : Done w.params base μ₁ s₁ μ₁ s₂ := ⟨d₁.hr.keeps kp, ⟨fun b o e zz => kp b o e, fun zz m => .inl m, fun b o e => ⟨o, kp b o e⟩⟩, eg, eo⟩
  have sideOf : ∀ b, s₁.heap.get? b = none → Side env base μ₁ s₁ b := by
    intro b q
    refine ⟨q, d₁.hr.base_none q, fun e => ?_, fun y e => ?_⟩
    · obtain ⟨m, cm, ⟨_, _, _, ho, _⟩, _⟩ := F₁.at_; rw [← e, q] at ho; cases ho
    · obtain ⟨m, cm, _, hc, _⟩ := F₁.at_
      obtain ⟨_, ho, _⟩ := hc y _ e; rw [q] at ho; cases ho
  have SI := sideOf it nit
  have SE := sideOf (it + 1) ne
  -- two places change
  have touch2 : ∀ {μ' : Mu} {sa : Shared} {h' : Heap} {t : Nat}, DoneF false w.params base env μ₁ s₁ μ' sa → ¬ muts μ' it → ¬ muts μ' (it + 1) → (∀ b o, b ≠ it + 1 → b ≠ it → sa.heap.get? b = some o → h'.get? b = some o) → TupKeep sa.heap h' →
      DoneF false w.params base env μ₁ s₁ μ' { sa with heap := h', toks := t } := by
    intro μ' sa h' t d nm1 nm2 ks tk
    refine ⟨?_, ⟨fun b o e nn lo c => ks b o (fun q => by rw [q, ne] at e; cases e) (fun q => by rw [q, nit] at e; cases e) (d.ext.keep b o e nn lo c), d.ext.grow, fun b o e => ?_⟩, d.gens, d.os⟩
    · have H' := d.hr
      have nl : ∀ a x, μ' a = some x → a ≠ it + 1 ∧ a ≠ it := fun a x e => ⟨fun q => nm2 ⟨a, x, e, .inl q.symm⟩, fun q => nm1 ⟨a, x, e, .inl q.symm⟩⟩
      have nd : ∀ a C dd fs, μ' a = some (.inst C dd fs) → dd ≠ it + 1 ∧ dd ≠ it := fun a C dd fs e => ⟨fun q => nm2 ⟨a, _, e, .inr ⟨C, fs, by rw [q]⟩⟩, fun q => nm1 ⟨a, _, e, .inr ⟨C, fs, by rw [q]⟩⟩⟩
      refine ⟨fun b o e => ks b o (fun q => by rw [q, SE.nb] at e; cases e) (fun q => by rw [q, SI.nb] at e; cases e) (H'.stays b o e), fun a o e => ?_, H'.fresh, H'.apart⟩
      have z := H'.objs a o e
      obtain ⟨q1, q2⟩ := nl a o e
      cases o with
      | list its => obtain ⟨vs, c, ho, il⟩ := z; exact ⟨vs, c, ks _ _ q1 q2 ho, il.keep tk⟩
      | inst C dd fs => obtain ⟨z, es, nn, hd, r⟩ := z; exact ⟨ks _ _ q1 q2 z, es, nn, ks _ _ (nd _ _ _ _ e).1 (nd _ _ _ _ e).2 hd, r.keep tk⟩
      | dict fs => obtain ⟨es, nn, hd, r⟩ := z; exact ⟨es, nn, ks _ _ q1 q2 hd, r.keep tk⟩
    · obtain ⟨o', e'⟩ := d.ext.alive b o e
      exact ⟨o', ks b o' (fun q => by rw [q, ne] at e; cases e) (fun q => by rw [q, nit] at e; cases e) e'⟩
  have away2 : ∀ {σ' : Sg} {μ' : Mu} {ha hb : Heap}, FrR sc env σ' μ' ha → (∀ b o, b ≠ it + 1 → b ≠ it → ha.get? b = some o → hb.get? b = some o) → TupKeep ha hb → FrR sc env σ' μ' hb := by
    intro σ' μ' ha hb F' ks tk
    obtain ⟨m, cm, hn, hc, hv⟩ := F'.at_
    refine ⟨F'.own, F'.ownc, m, cm, hn.at' fun o e => ks _ o (Ne.symm SE.nl) (Ne.symm SI.nl) e, fun y c e => ?_, fun y mv e => by obtain ⟨v, i, r⟩ := hv y mv e; exact ⟨v, i.keep tk, r⟩⟩
    obtain ⟨o, ho, hd⟩ := hc y c e
    exact ⟨o, ks c o (fun q => SE.nc y (q ▸ e)) (fun q => SI.nc y (q ▸ e)) ho, hd⟩
  have tkOf : ∀ {ha hb : Heap} {oe oi : Obj}, ha.get? (it + 1) = some oe → oe.cls ≠ .type "tuple" → ha.get? it = some oi → oi.cls ≠ .type "tuple" → (∀ b o, b ≠ it + 1 → b ≠ it → ha.get? b = some o → hb.get? b = some o) → TupKeep ha hb := by
    intro ha hb oe oi h1 h2 h3 h4 ks a items t
    obtain ⟨o, ho, hc, r⟩ := t
    exact ⟨o, ks a o (fun q => by rw [q, h1] at ho; cases ho; exact h2 hc) (fun q => by rw [q, h3] at ho; cases ho; exact h4 hc) ho, hc, r⟩
  let I : Nat → Shared → Prop := EnumI items (Loop prog w base n sc (.Tuple elts k tp) body (fun μ => μ l = some (.list items)) post) (DoneF false w.params base env μ₁ s₁) (FrR sc env) it l
  refine codeAny_mono (forLoop2 (R := fun r s' => match r with | .ok f => After w base sc env μ₁ s₁ post f s' | .error _ => False) I (fun kk s' hI => ?_) items.length ⟨[], items, σ, μ₁, rfl, rfl, loop, d₂.toF, F₁.keep d₁.hr d₂.ext, ⟨_, he⟩, hit, d₁.hr.dead nit, d₁.hr.dead ne⟩) fun r s' z => ?_
  · obtain ⟨done, rest, σ', μ', ei, hk, lp, d, F', ⟨old, hen⟩, hli, nm1, nm2⟩ := hI
    obtain ⟨oli, holi, hcli, hdli⟩ := id hli
    have hIt : oli.cls ≠ .type "tuple" := by rw [hcli]; decide
    cases rest with
    | nil =>
      obtain ⟨hc, q⟩ := lp
      obtain ⟨vs, c, hlo, il⟩ := d.hr.objs _ _ hc
      have hlen : vs.length = done.length := by rw [il.length, ei, List.append_nil]
      refine wpAny_pyNext_enum_end R.1 hen hli (isList_of hlo) (by rw [List.getElem?_toArray]; exact List.getElem?_eq_none (Nat.le_of_eq hlen)) fun h' hx => ?_
      have ks : ∀ b o, b ≠ it + 1 → b ≠ it → s'.heap.get? b = some o → h'.get? b = some o := fun b o zz q e => hx b o q e
      have tk := tkOf hen (by simp) holi hIt ks
      exact wpAny_execs_nil ⟨.next, _, _, q, touch2 (t := s'.toks) d nm1 nm2 ks tk, away2 F' ks tk, .next⟩
    | cons y r =>
      obtain ⟨hc, q⟩ := lp
      obtain ⟨vs, c, hlo, il⟩ := d.hr.objs _ _ hc
      obtain ⟨v, hv, iv⟩ := il.at (i := done.length) (m := y) (by rw [ei]; simp)
      refine wpAny_pyNext_enum_item hen hli (isList_of hlo) (by rw [List.getElem?_toArray]; exact hv) hei fun h' heo hit' hT hz ks => ?_
      have tk := tkOf hen (by simp) holi hIt ks
      have da := touch2 (t := s'.toks + 1) d nm1 nm2 ks tk
      have Fa := away2 F' ks tk
      have hT' : s'.heap.objs.size ≠ it + 1 ∧ s'.heap.objs.size ≠ it := ⟨fun q => by have := Heap.lt_size hen; rw [q] at this; exact Nat.lt_irrefl _ this, fun q => by have := Heap.lt_size holi; rw [q] at this; exact Nat.lt_irrefl _ this⟩
      refine wpAny_letOwnedTupleGo_enum (s := { s' with heap := h', toks := s'.toks + 1 }) heo fun h₂ he₂ hs₂ => ?_
      have hs₂ : Heap.SameBut (it + 1) h' h₂ := hs₂
      obtain ⟨oli', holi', hcli', _⟩ := id hit'
      have ks₂ : ∀ b o, b ≠ it + 1 → b ≠ it → h'.get? b = some o → h₂.get? b = some o := fun b o q zz e => (hs₂.2 b q).trans e
      have tk₂ := tkOf (ha := h') heo (by simp) holi' (by rw [hcli']; decide) ks₂
      have db := touch2 (t := s'.toks + 1) da nm1 nm2 ks₂ tk₂
      have Fb := away2 Fa ks₂ tk₂
      have it₂ : h₂.IsListIter it l (done.length + 1) := ⟨oli', (hs₂.2 it (Ne.symm hei)).trans holi', hcli', by obtain ⟨o, e1, e2, e3⟩ := hit'; rw [holi'] at e1; cases e1; exact e3⟩
      have hTup : IsTup h₂ s'.heap.objs.size [Value.int done.length s'.toks, v].toArray := ⟨_, (hs₂.2 _ hT'.1).trans hT, rfl, _, rfl⟩
      have iT : Is h₂ (.tup [.int done.length, y]) (.ref s'.heap.objs.size) := .tup hTup (.cons (.int ..) (.cons ((iv.keep tk).keep tk₂) .nil))
      refine wpAny_mono (q A env { s' with heap := h₂, toks := s'.toks + 1 } _ R G db.hr Fb iT) (fun _ s₃ ⟨σ₂, μ₂, p₂, d₃, F₃⟩ => ?_) fun zz zz e => e
      have keepE : ∀ {μa sa μb sb}, DoneF false w.params base env μa sa μb sb → ¬ muts μa it → ¬ muts μa (it + 1) → (∃ old, IsEnum sa.heap (it + 1) it ((done.length + 1 : Nat) : Int) old) → sa.heap.IsListIter it l (done.length + 1) →
          (∃ old, IsEnum sb.heap (it + 1) it ((done.length + 1 : Nat) : Int) old) ∧ sb.heap.IsListIter it l (done.length + 1) ∧ ¬ muts μb it ∧ ¬ muts μb (it + 1) := by
        intro μa sa μb sb dd n1 n2 ⟨old, e1⟩ e2
        obtain ⟨o2, ho2, r2⟩ := id e2
        refine ⟨⟨old, dd.ext.keep _ _ e1 n2 SE.nl (.inr SE.nc)⟩, ⟨o2, dd.ext.keep _ _ ho2 n1 SI.nl (.inr SI.nc), r2⟩, fun m => ?_, fun m => ?_⟩
        · rcases dd.ext.grow _ m with q | q
          · exact n1 q
          · rw [ho2] at q; cases q
        · rcases dd.ext.grow _ m with q | q
          · exact n2 q
          · rw [e1] at q; cases q
      obtain ⟨en₃, it₃, nm1₃, nm2₃⟩ := keepE d₃ nm1 nm2 ⟨_, by simpa using he₂⟩ it₂
      refine wpAny_mono (p₂ A env s₃ R G d₃.hr F₃) (fun fl s₄ ⟨mf, σ₄, μ₄, p₄, d₄, F₄, i₄⟩ => ?_) fun zz zz e => e
      obtain ⟨en₄, it₄, nm1₄, nm2₄⟩ := keepE d₄ nm1₃ nm2₃ en₃ it₃
      have dall := (db.trans d₃).trans d₄
      have again : Loop prog w base n sc (.Tuple elts k tp) body (fun μ => μ l = some (.list items)) post (enumL r (done.length + 1)) σ₄ μ₄ → ∃ m, m < kk ∧ I m s₄ := fun q =>
        ⟨r.length, by rw [← hk]; exact Nat.lt_succ_self _, done ++ [y], r, σ₄, μ₄, by rw [ei]; simp, rfl, by simpa using q, dall, F₄, by simpa using en₄, by simpa using it₄, nm1₄, nm2₄⟩
      cases i₄ with
      | next => exact again p₄
      | cont => exact again p₄
      | brk => exact ⟨_, _, _, p₄, dall, F₄, .next⟩
      | ret i => exact ⟨_, _, _, p₄, dall, F₄, .ret i⟩
  · rcases r with e | f
    · exact z.elim
    · exact z.from d₁.toF
end
end Mine
namespace Mine
set_option tactic.hygienic false

section
variable {w : World} {base : Heap} {prog : Program} {n : Nat} {sc : Scope} {σ : Sg} {μ : Mu} {K : Frag}

/-- a call of a builtin over d.values() -/
noncomputable def VT (prog : Program) (w : World) (base : Heap) (n : Nat) (f : Value) (d : Addr) (μ : Mu) (post : MV → Mu → Prop) : Prop :=
  ∀ A s v, Room n A → HR w.params base μ s.heap → s.heap.IsValuesView v d → EvT prog w base A (call f [.ref v]) μ s s post
theorem Ev.over_values {x p o apos vp pos f} {post : MV → Mu → Prop} (W : WF w K base) (hl : sc.names.lookup x = some .globalImplicit) (e : nsIn K mainGlobals x = some none) (hv : bootBuiltins x = some f) (hk : noRef f = true)
    (h : Ev prog w base n sc o σ μ (fun ov μ₁ => ∃ d fs, ov = .ref d ∧ μ₁ d = some (.dict fs) ∧ (fs.map (·.1)).Nodup ∧ (d == sysModules) = false ∧ VT prog w base n f d μ₁ post))
    (he : ∀ env, ∃ pl, eval (.Call (.Attribute o "values" apos) [] [] vp) env = (do
      let ov ← eval o env
      standAt apos.atName
      let (f, first) ← holding [ov] (getMethod ov "values" pl)
      callWith vp f first [] []) := by intro _; exact ⟨_, rfl⟩)
    (hse : ∀ env, starEach [.Call (.Attribute o "values" apos) [] [] vp] env = [(false, eval (.Call (.Attribute o "values" apos) [] [] vp) env)] := by intro zz; rfl)
    (hne : x ≠ "__name__" := by decide) (hd : (x == ("__debug__" : Str)) = false := by decide) :
    Ev prog w base n sc (.Call (.Name x p) [.Call (.Attribute o "values" apos) [] [] vp] [] pos) σ μ post := by
  intro A env s R G H F
  have z : Ev prog w base n sc (.Name x p) σ μ (fun a μ₁ => a = .raw f ∧ μ₁ = μ) := Ev.builtin W hl e hv (fun zz => .raw f) ⟨rfl, rfl⟩ hne hd
  refine wpAny_Call_Name_kw ((z A env s R G H F).then_ fun a μ₁ va s₁ ⟨e1, e2⟩ d₁ i₁ => ?_)
  subst e1 e2
  cases i₁
  rw [hse]
  refine callWith_of (P := fun zz => True) rfl (fun h zz => ⟨.machine, .inr (.inl rfl), Looks.of_pure (by cases f <;> first | rfl | cases hk)⟩) (evalArgs_any rfl rfl ?_)
  have F₁ := F.keep H d₁.ext
  obtain ⟨pl, he⟩ := he env
  refine spliced_cons (methodCall_KW ((h A env s₁ R G d₁.hr F₁).then_ fun ov μ₂ vo s₂ ⟨d, fs, eo, hdd, nd, hs, h₂⟩ d₂ i₂ => ?_) he)
  subst eo; cases i₂
  obtain ⟨kvs, dk, pk⟩ := DictIs.to (prog := prog) (d₂.hr.objs _ _ hdd) nd
  obtain ⟨es, c, hlo, il⟩ := d₂.hr.objs _ _ hdd
  refine getMethod_builtin (T := "dict") ⟨_, hlo, rfl⟩ PySem.F.plainAttrs_dict PySem.F.slot_dict_values PySem.F.type_dict_values (fun zz e => by cases e; exact ⟨_, hlo, rfl⟩) ?_
  refine callWith_of (P := fun zz => True) rfl (fun h zz => ⟨.machine, .inr (.inl rfl), Looks.of_pure rfl⟩) (evalArgs_any rfl rfl ?_)
  refine spliced_nil (wpAny_evalAll_nil ⟨trivial, ?_⟩)
  refine call_meetsIn PySem.F.slot_dict_values ⟨_, hlo, rfl⟩ PySem.F.entry_dict_values (PySem.F.args_dict_values_1 _) (meets_dict_values (strKind prog w) d hs) ⟨⟨kvs, dk⟩, ?_⟩
  refine spliced_nil (wpAny_evalAll_nil ⟨trivial, ?_⟩)
  have dd := (d₁.trans d₂).trans (Done.push (o := { cls := .type "dict_values", data := .fields #[.ref d] }) d₂.hr)
  exact EvT.from dd (h₂ A _ _ R dd.hr ⟨_, Heap.get?_push_size _ rfl, rfl, rfl⟩)

theorem dictAt_of {h : Heap} {d : Addr} {kvs : List (Str × Value)} (x : h.DictOf (strKind prog w) d kvs) : ∃ ep, h.DictAt (strKind prog w) d kvs ep := by
  obtain ⟨o, es, ep, r⟩ := x; exact ⟨ep, o, es, r⟩
theorem pair_vals {h : Heap} : ∀ {fs : Sg} {kvs : List (Str × Value)}, PairIs h fs kvs → IsL h (fs.map (·.2)) (kvs.map (·.2))
  | _, _, .nil => .nil
  | _, _, .cons i r => .cons i (pair_vals r)
theorem VT.sum {d : Addr} {fs : Sg} {ns : List Int} {post : MV → Mu → Prop} (hd : μ d = some (.dict fs)) (nd : (fs.map (·.1)).Nodup) (hv : fs.map (·.2) = ns.map .int) (h : post (.int ns.sum) μ) : VT prog w base n (.builtin "sum") d μ post := by
  intro A s v R H hw
  obtain ⟨kvs, dk, pk⟩ := DictIs.to (prog := prog) (H.objs _ _ hd) nd
  obtain ⟨ep, da⟩ := dictAt_of dk
  have il := pair_vals pk
  rw [hv] at il
  have ia := isL_ints il
  obtain ⟨xs, e⟩ := ia.allInts.items
  have hns : ns = xs.toList.map (·.1) := by rw [← ia.numsOf, ← nums_intItems, ← e]
  have hlen : kvs.length = xs.size := by
    have : (kvs.map (·.2)).toArray.size = (intItems xs).size := by rw [e]
    simpa [intItems] using this
  unfold EvT
  refine call_sum_walkG (wpAny_pyIter_values hw da ?_)
  have hlt : d < s.heap.objs.size := by obtain ⟨o, _, ho, _⟩ := da; exact Heap.lt_size ho
  refine ⟨s.heap.objs.size, [s.heap.objs.size, d], [s.heap.objs.size], kvs.length, _, _, numAt xs, rfl, Walks.dictValues (A := A.in1) (knd := strKind prog w) R.1 s.heap.objs.size d (Nat.ne_of_lt hlt) kvs ep, ?_, ?_, ?_, fun h' tk t' k => ?_⟩
  · refine ⟨⟨_, Heap.get?_push_size _ rfl, rfl, rfl⟩, da.at' fun o e => Heap.get?_push_of_some _ e⟩
  · intro b hb
    show b < (s.heap.push _).objs.size
    rw [Heap.size_push]
    rcases List.mem_cons.mp hb with rfl | hb
    · exact Nat.lt_succ_self _
    · rcases List.mem_cons.mp hb with rfl | hb
      · exact Nat.lt_succ_of_lt hlt
      · cases hb
  · rintro i v ⟨k, hk⟩
    refine intItems_at (xs := xs) (i := i) ?_
    rw [← e, List.getElem?_toArray, List.getElem?_map, hk]; rfl
  · have kp : ∀ b o, s.heap.get? b = some o → h'.get? b = some o := fun b o e => k b o (fun hm => by
      rcases List.mem_cons.mp hm with q | q
      · exact absurd (q ▸ Heap.lt_size e) (Nat.lt_irrefl _)
      · cases q) (Heap.get?_push_of_some _ e)
    refine ⟨.int ns.sum, _, h, .keeps H kp, ?_⟩
    rw [hlen, preSum_eq, List.take_of_length_le (by simp), ← hns]; exact .int ..
end
end Mine
namespace Mine
set_option tactic.hygienic false

section
variable {w : World} {base : Heap} {prog : Program} {n : Nat} {sc : Scope} {σ : Sg} {μ : Mu} {K : Frag}

theorem hint_values {A : Around} {E : Value → Shared → Prop} {s : Shared} {v d : Addr} {Q : Bool → Shared → Prop} (hv : s.heap.IsValuesView v d) (h : Q false s) : wpAny (model prog w) A (Builtin.List.listLengthHint (.ref v)) Q E s := by
  unfold Builtin.List.listLengthHint
  refine wpAny_bind (wpAny_specialOf hv.typeIs PySem.F.slot_dict_values_len.lookup ?_)
  generalize hid : ("dict_values.__len__" : String) = id0
  wp_delta
  rw [show splitId id0 = some ("dict_values", "__len__") from by subst hid; decide +kernel]
  subst hid
  refine wpAny_bind (wpAny_isInstance (T := "dict_values") (b := true) hv.typeIs (by rw [isSubtype_type]; kernel_rfl) ?_)
  refine wpAny_ite_split (fun hab => absurd hab (by decide)) (fun zz => ?_)
  refine wpAny_ite_split (fun zz => ?_) (fun hab => absurd (by decide +kernel) hab)
  exact wpAny_bind (wpAny_typeOf hv.typeIs (wpAny_pure h))

theorem vals_at {kvs : List (Str × Value)} {acc : Array Value} (h : ItemsOf (fun i v => ∃ k, kvs[i]? = some (k, v)) acc kvs.length) : acc = (kvs.map (·.2)).toArray := by
  obtain ⟨h1, h2⟩ := h
  apply Array.ext
  · simpa using h1
  · intro i hi hi'
    obtain ⟨k, hk⟩ := h2 i acc[i] (by simp [hi])
    have : (kvs.map (·.2))[i]? = some acc[i] := by rw [List.getElem?_map, hk]; rfl
    rw [List.getElem_toArray]
    have h3 : i < (kvs.map (·.2)).length := by simpa using hi'
    rw [List.getElem?_eq_getElem h3] at this
    exact (Option.some.inj this).symm

theorem VT.list {d : Addr} {fs : Sg} {post : MV → Mu → Prop} (hd : μ d = some (.dict fs)) (nd : (fs.map (·.1)).Nodup) (hz : fs.length ≤ 1000)
    (h : ∀ D, μ D = .none → post (.ref D) (μ.set D (.list (fs.map (·.2))))) : VT prog w base n (.type "list") d μ post := by
  intro A s v R H hw
  obtain ⟨kvs, dk, pk⟩ := DictIs.to (prog := prog) (H.objs _ _ hd) nd
  obtain ⟨ep, da⟩ := dictAt_of dk
  have il := pair_vals pk
  obtain ⟨od, _, hod, _⟩ := id da
  obtain ⟨ov, hov, hcv, hdv⟩ := id hw
  have hlt : d < s.heap.objs.size := Heap.lt_size hod
  have hvlt : v < s.heap.objs.size := Heap.lt_size hov
  unfold EvT
  have fin : ∀ (h' : Heap) (tk : Tok) (acc' : Array Value) (c' : Nat), (∀ b o, s.heap.get? b = some o → h'.get? b = some o) → h'.get? s.heap.objs.size = some { cls := .type "list", dict := none, data := .seq acc' c', slots := #[] } →
      ItemsOf (fun i v => ∃ k, kvs[i]? = some (k, v)) acc' kvs.length → ERes w base μ s post (.ref s.heap.objs.size) { s with heap := h', toks := tk } := by
    intro h' tk acc' c' kp hS hI
    have e := vals_at hI
    refine ⟨.ref s.heap.objs.size, _, h _ (H.nomu size_none), Done.newList (t := tk) H size_none kp ⟨kvs.map (·.2), c', ?_, il.keep (tupKeep_of kp)⟩, .ref _⟩
    rw [hS, e]
  refine callType_codes (Q₁ := fun obj s₁ => obj = .ref s.heap.objs.size ∧ s₁ = { s with heap := s.heap.push { cls := .type "list", data := .seq #[] } }) PySem.F.called_list (PySem.F.typeCall_list_1 _) PySem.F.entry_list_init
    (code_list_new _ ⟨rfl, rfl⟩) fun obj s₁ h₁ => ?_
  obtain ⟨rfl, rfl⟩ := h₁
  generalize hSe : s.heap.objs.size = S at *
  have hS : (s.heap.push { cls := .type "list", data := .seq #[] }).get? S = some { cls := .type "list", data := .seq #[] } := by rw [← hSe]; exact Heap.get?_push_size _ rfl
  have hSv : S ≠ v := Ne.symm (Nat.ne_of_lt hvlt)
  have hSd : S ≠ d := Ne.symm (Nat.ne_of_lt hlt)
  refine ⟨⟨_, hS, rfl⟩, PySem.F.args_list_init_2 _ _, ?_⟩
  show wpAny _ _ (do let old ← Builtin.List.listItems (.ref S); Builtin.List.listUpdate (.ref S) (fun zz => #[]); letGo old.toList.reverse; Builtin.List.listExtendWith (.ref S) (.ref v) .none) _ _ _
  refine wpAny_bind (listItems_at hS rfl ?_)
  refine wpAny_bind (listUpdate_at hS rfl ?_)
  have hS₂ := Heap.get?_update_self (Obj.mapSeq (fun zz => (#[] : Array Value))) hS rfl
  generalize hH : (s.heap.push { cls := .type "list", data := .seq #[] }).update S (Obj.mapSeq (fun zz => (#[] : Array Value))) = H2 at *
  have oth : ∀ b o, b ≠ S → s.heap.get? b = some o → H2.get? b = some o := fun b o hb e => by
    rw [← hH]; exact (Heap.get?_update_other _ _ (Ne.symm hb)).trans (Heap.get?_push_of_some _ e)
  have ne : ∀ b o, s.heap.get? b = some o → b ≠ S := fun b o e => by have := Heap.lt_size e; rw [hSe] at this; exact Nat.ne_of_lt this
  refine wpAny_bind (wpAny_letGo ?_)
  unfold Builtin.List.listExtendWith
  have hw₂ : H2.IsValuesView v d := ⟨ov, oth _ _ (Ne.symm hSv) hov, hcv, hdv⟩
  have da₂ : H2.DictAt (strKind prog w) d kvs ep := da.at' fun o e => oth _ _ (Ne.symm hSd) e
  refine wpAny_bind (wpAny_typeOf (s := { s with heap := H2 }) (v := .ref v) hw₂.typeIs ?_)
  have h1 : Builtin.List.listSameRef (.ref S) (.ref v) = false := beq_eq_false_iff_ne.mpr hSv
  have h2 : (Value.type "dict_values" == Value.type "list") = false := by decide
  have h3 : (Value.type "dict_values" == Value.type "tuple") = false := by decide
  simp only [h1, h2, h3, Bool.or_false, Bool.false_eq_true, if_false]
  refine wpAny_bind (wpAny_pyIter_values (s := { s with heap := H2 }) hw₂ da₂ ?_)
  generalize hH3 : H2.push { cls := .type "dict_valueiterator", data := .fields #[.ref d, .int 0 0, .int kvs.length 0, .int ep 0] } = H3 at *
  have up3 : ∀ b o, H2.get? b = some o → H3.get? b = some o := fun b o e => by rw [← hH3]; exact Heap.get?_push_of_some _ e
  refine wpAny_bind (wpAny_holding (hint_values (s := { s with heap := H3 }) (d := d) ⟨ov, up3 _ _ (oth _ _ (Ne.symm hSv) hov), hcv, hdv⟩ ?_))
  have hI2 : S < H2.objs.size := Heap.lt_size hS₂
  have hSI : S ≠ H2.objs.size := Nat.ne_of_lt hI2
  have hS₃ := up3 _ _ hS₂
  refine wpAny_ite_split (fun zz => ?_) (fun hab => absurd (by decide) hab)
  refine wpAny_bind (wpAny_rule ?_)
  refine wpAny_bind ?_
  show wpAny _ _ (updateSeq S (·.push .none) >>= fun zz => updateSeq S (·.pop)) _ _ _
  refine wpAny_bind (wpAny_updateSeq (s := { s with heap := H3 }) hS₃ rfl ?_)
  have hS₄ := Heap.get?_update_self (Obj.mapSeq (·.push Value.none)) hS₃ rfl
  refine wpAny_updateSeq (hz := by seq_fits) hS₄ rfl ?_
  have hS₅ := Heap.get?_update_self (Obj.mapSeq (·.pop)) hS₄ rfl
  generalize hH5 : ((H3.update S (Obj.mapSeq (·.push Value.none))).update S (Obj.mapSeq (·.pop))) = H5 at *
  have up5 : ∀ b o, b ≠ S → H3.get? b = some o → H5.get? b = some o := fun b o hb e => by
    rw [← hH5]; exact (Heap.get?_update_other _ _ (Ne.symm hb)).trans ((Heap.get?_update_other _ _ (Ne.symm hb)).trans e)
  refine wpAny_pure ⟨plainId_quiet PySem.F.plain_extend_loop _, ?_⟩
  have W := (Walks.dictValues (prog := prog) (w := w) (knd := strKind prog w) (A := A.in1.in1) R.1 H2.objs.size d (Nat.ne_of_lt (Heap.lt_size (oth _ _ (Ne.symm hSd) hod))) kvs ep).toS
  refine codeAny_extend_loopS W (by rw [← show kvs.length = kvs.length from rfl, pk.length, sizeLine_eq]; lia) S (fun hm => by
      rcases List.mem_cons.mp hm with q | q
      · exact hSI q
      · exact hSd (List.mem_singleton.mp q)) .none kvs.length 0 { s with heap := H5 } #[] _ rfl (Nat.zero_le _) ?_ hS₅ (ItemsOf.nil _) fun s' acc' c' hm hS' hacc => ?_
  · refine ⟨⟨_, up5 _ _ (Ne.symm hSI) (by rw [← hH3]; exact Heap.get?_push_size _ rfl), rfl, rfl⟩, da₂.at' fun o e => up5 _ _ (Ne.symm hSd) (up3 _ _ e)⟩
  · rw [Moved.eq_with hm]
    refine ⟨rfl, ?_⟩
    refine fin s'.heap s'.toks acc' c' (fun b o e => ?_) hS' hacc
    refine hm.heap b o (fun hmem => ?_) (up5 _ _ (ne b o e) (up3 _ _ (oth b o (ne b o e) e)))
    rcases List.mem_cons.mp hmem with q | q
    · exact ne b o e q
    · have q := List.mem_singleton.mp q
      have h1 := Heap.lt_size e
      rw [hSe] at h1
      rw [q] at h1
      exact Nat.lt_irrefl _ (Nat.lt_trans h1 hI2)
end
end Mine
namespace Mine
set_option tactic.hygienic false

section
variable {w : World} {base : Heap} {prog : Program} {n : Nat} {sc : Scope} {σ σ' : Sg} {μ : Mu} {K : Frag}
theorem Ev.sub {e} {post : MV → Mu → Prop} (x : Ev prog w base n sc e σ' μ post) (h : Sub σ' σ) : Ev prog w base n sc e σ μ post := fun A env s r g H F => x A env s r g H (F.sub h)
theorem Tr.sub {e} {post : Bool → Mu → Prop} (x : Tr prog w base n sc e σ' μ post) (h : Sub σ' σ) : Tr prog w base n sc e σ μ post := fun A env s r g H F => x A env s r g H (F.sub h)
theorem Asg.sub {lo : Bool} {t x} {post : Sg → Mu → Prop} (y : Asg lo prog w base n sc t x σ' μ post) (h : Sub σ' σ) : Asg lo prog w base n sc t x σ μ post := fun A env s v r g H F i => y A env s v r g H (F.sub h) i
theorem Loop.sub {t body cond} {post : MF → Sg → Mu → Prop} (hp : ∀ σ σ' μ, Sub σ' σ → post .next σ' μ → post .next σ μ) {items : List MV} (x : Loop prog w base n sc t body cond post items σ' μ) (h : Sub σ' σ) : Loop prog w base n sc t body cond post items σ μ := by
  cases items with
  | nil => exact ⟨x.1, hp _ _ _ h x.2⟩
  | cons y r => exact ⟨x.1, x.2.sub h⟩
theorem CLoop.sub {t ifs elt cond} {post : List MV → Mu → Prop} {items acc : List MV} (x : CLoop prog w base n sc t ifs elt cond post items acc σ' μ) (h : Sub σ' σ) : CLoop prog w base n sc t ifs elt cond post items acc σ μ := by
  cases items with
  | nil => exact x
  | cons y r => exact ⟨x.1, x.2.1, x.2.2.sub h⟩
theorem CLoopL.sub {m : Nat} {t ifs elt cond} {post : List MV → Mu → Prop} {items acc : List MV} (x : CLoopL m prog w base n sc t ifs elt cond post items acc σ' μ) (h : Sub σ' σ) : CLoopL m prog w base n sc t ifs elt cond post items acc σ μ := by
  cases items with
  | nil => exact x
  | cons y r => exact ⟨x.1, x.2.1, x.2.2.sub h⟩
theorem DLoop.sub {t kx vx cond} {post : Sg → Mu → Prop} {items : List MV} {acc : Sg} (x : DLoop prog w base n sc t kx vx cond post items acc σ' μ) (h : Sub σ' σ) : DLoop prog w base n sc t kx vx cond post items acc σ μ := by
  cases items with
  | nil => exact x
  | cons y r => exact ⟨x.1, x.2.1, x.2.2.sub h⟩

theorem Ex.while' {t body pos} {post : MF → Sg → Mu → Prop} (I : Nat → Sg → Mu → Prop) (k₀ : Nat) (σ₀ : Sg) (hs : Sub σ₀ σ) (h0 : I k₀ σ₀ μ)
    (turn : ∀ k σ μ, I k σ μ → Tr prog w base n sc t σ μ (fun b μ₁ => if b then Exs prog w base n sc body σ μ₁ (fun f σ₂ μ₂ => match f with
      | .next | .cont => ∃ m σ₃, m < k ∧ Sub σ₃ σ₂ ∧ I m σ₃ μ₂
      | .brk => post .next σ₂ μ₂
      | .ret v => post (.ret v) σ₂ μ₂) else post .next σ μ₁)) : Ex prog w base n sc (.While t body [] pos) σ μ post := by
  intro A env s R G H F
  refine wpAny_While ?_
  let J : Nat → Shared → Prop := fun k s' => ∃ σ' μ', I k σ' μ' ∧ DoneF false w.params base env μ s μ' s' ∧ FrR sc env σ' μ' s'.heap
  refine codeAny_whileLoop J (fun k s' hJ => ?_) k₀ ⟨σ₀, μ, h0, (Done.refl H).toF, F.sub hs⟩
  obtain ⟨σ', μ', hI, d, F'⟩ := hJ
  refine wpAny_mono (turn k σ' μ' hI A env s' R G d.hr F') (fun b s₁ ⟨μ₁, p, d₁⟩ => ?_) fun zz zz e => e.elim
  have F₁ := F'.keep d.hr d₁.ext
  cases b with
  | false =>
    simp only [Bool.false_eq_true, if_false] at p ⊢
    exact wpAny_execs_nil ⟨_, _, _, p, d.trans d₁.toF, F₁, .next⟩
  | true =>
    rw [if_pos rfl] at p ⊢
    refine wpAny_mono (p A env s₁ R G d₁.hr F₁) (fun fl s₂ ⟨mf, σ₂, μ₂, p₂, d₂, F₂, i₂⟩ => ?_) fun zz zz e => e.elim
    have dd := (d.trans d₁.toF).trans d₂
    cases i₂ with
    | next => obtain ⟨m, σ₃, hm, hs, q⟩ := p₂; exact ⟨m, hm, _, _, q, dd, F₂.sub hs⟩
    | cont => obtain ⟨m, σ₃, hm, hs, q⟩ := p₂; exact ⟨m, hm, _, _, q, dd, F₂.sub hs⟩
    | brk => exact ⟨_, _, _, p₂, dd, F₂, .next⟩
    | ret i => exact ⟨_, _, _, p₂, dd, F₂, .ret i⟩

/-- all that was tracked stands as it was -/
noncomputable def Same (μ μ' : Mu) : Prop := ∀ a o, μ a = some o → μ' a = some o
theorem Same.refl : Same μ μ := fun zz zz e => e
theorem Same.trans {μ₁ μ₂ μ₃ : Mu} (x : Same μ₁ μ₂) (y : Same μ₂ μ₃) : Same μ₁ μ₃ := fun a o e => y a o (x a o e)
theorem Same.new {D : Addr} {o : MO} (h : μ D = none) : Same μ (μ.set D o) := fun a o' e => by
  rw [Mu.set_ne (fun q => by rw [q, h] at e; cases e)]; exact e
/-- all but one -/
noncomputable def SameBut (l : Addr) (μ μ' : Mu) : Prop := ∀ a o, a ≠ l → μ a = some o → μ' a = some o
theorem Same.but {l : Addr} {μ' : Mu} (x : Same μ μ') : SameBut l μ μ' := fun a o zz e => x a o e
theorem SameBut.refl {l : Addr} : SameBut l μ μ := fun zz zz zz e => e
theorem SameBut.trans {l : Addr} {μ₁ μ₂ μ₃ : Mu} (x : SameBut l μ₁ μ₂) (y : SameBut l μ₂ μ₃) : SameBut l μ₁ μ₃ := fun a o q e => y a o q (x a o q e)
theorem SameBut.set {l : Addr} {o : MO} : SameBut l μ (μ.set l o) := fun a o' q e => by rw [Mu.set_ne q]; exact e
theorem Sub.nil : Sub [] σ := fun zz h => by cases h
theorem Sub.cons {x : Str} {v : MV} {r : Sg} (e : σ.lookup x = some v) (h : Sub r σ) : Sub ((x, v) :: r) σ := fun p hp => by
  rcases List.mem_cons.mp hp with rfl | hp
  · exact e
  · exact h p hp
theorem Exs.pm {st} {post : MF → Sg → Mu → Prop} {σ₁ σ₂ : Sg} (h : Sub σ₂ σ₁) (x : Exs prog w base n sc st σ₂ μ post) : Exs prog w base n sc st σ₁ μ post := x.sub h
end
end Mine
namespace Mine
set_option tactic.hygienic false

section
variable {w : World} {base : Heap} {prog : Program} {n : Nat} {sc : Scope} {σ σ' : Sg} {μ : Mu} {K : Frag} {α : Type}
theorem Sub.refl (h : (σ.map (·.1)).Nodup) : Sub σ σ := fun p hp => lookup_of_mem_nodup h hp
theorem Exs.weak {st} {post post' : MF → Sg → Mu → Prop} (x : Exs prog w base n sc st σ μ post) (h : ∀ f σ μ, post f σ μ → post' f σ μ) : Exs prog w base n sc st σ μ post' := x.mono h
noncomputable abbrev nextP (I : Sg → Mu → Prop) (σ₂ : Sg) (μ₂ : Mu) : Prop := ∃ σ₃, Sub σ₃ σ₂ ∧ I σ₃ μ₂
noncomputable abbrev loopP (I : List α → Sg → Mu → Prop) (r : List α) (post : MF → Sg → Mu → Prop) : MF → Sg → Mu → Prop := fun f σ₂ μ₂ => match f with
  | .next | .cont => nextP (I r) σ₂ μ₂
  | .brk => post .next σ₂ μ₂
  | .ret v => post (.ret v) σ₂ μ₂
theorem Loop.ind {t body cond} {post : MF → Sg → Mu → Prop} (enc : α → MV) (I : List α → Sg → Mu → Prop)
    (hnil : ∀ σ μ, I [] σ μ → cond μ ∧ ∀ σ', Sub σ σ' → post .next σ' μ)
    (hcons : ∀ a r σ μ, I (a :: r) σ μ → cond μ ∧ Asg false prog w base n sc t (enc a) σ μ (fun σ₁ μ₁ => Exs prog w base n sc body σ₁ μ₁ (loopP I r post))) :
    ∀ (l : List α) (σ : Sg) (μ : Mu), I l σ μ → ∀ σ', Sub σ σ' → Loop prog w base n sc t body cond post (l.map enc) σ' μ
  | [], σ, μ, h, σ', hs => by
    obtain ⟨h1, h2⟩ := hnil σ μ h
    exact ⟨h1, h2 σ' hs⟩
  | a :: r, σ, μ, h, σ', hs => by
    obtain ⟨h1, h2⟩ := hcons a r σ μ h
    refine ⟨h1, (h2.sub hs).mono fun σ₁ μ₁ p => p.mono fun f σ₂ μ₂ q => ?_⟩
    cases f with
    | next => obtain ⟨σ₃, hs₃, q⟩ := q; exact Loop.ind enc I hnil hcons r σ₃ μ₂ q σ₂ hs₃
    | cont => obtain ⟨σ₃, hs₃, q⟩ := q; exact Loop.ind enc I hnil hcons r σ₃ μ₂ q σ₂ hs₃
    | brk => exact q
    | ret v => exact q
theorem CLoop.ind {t ifs elt cond} {post : List MV → Mu → Prop} (enc : α → MV) (I : List α → List MV → Sg → Mu → Prop)
    (hnil : ∀ acc σ μ, I [] acc σ μ → cond μ ∧ post acc μ)
    (hcons : ∀ a r acc σ μ, I (a :: r) acc σ μ → cond μ ∧ acc.length ≤ 1000 ∧ Asg true prog w base n sc t (enc a) σ μ (fun σ₁ μ₁ => Tests prog w base n sc ifs σ₁ μ₁ (fun b μ₂ =>
      if b then Ev prog w base n sc elt σ₁ μ₂ (fun v μ₃ => ∃ σ₃, Sub σ₃ σ₁ ∧ I r (acc ++ [v]) σ₃ μ₃)
      else ∃ σ₃, Sub σ₃ σ₁ ∧ I r acc σ₃ μ₂))) :
    ∀ (l : List α) (acc : List MV) (σ : Sg) (μ : Mu), I l acc σ μ → ∀ σ', Sub σ σ' → CLoop prog w base n sc t ifs elt cond post (l.map enc) acc σ' μ
  | [], acc, σ, μ, h, σ', _ => hnil acc σ μ h
  | a :: r, acc, σ, μ, h, σ', hs => by
    obtain ⟨h1, h2, h3⟩ := hcons a r acc σ μ h
    refine ⟨h1, h2, (h3.sub hs).mono fun σ₁ μ₁ p => p.mono fun b μ₂ q => ?_⟩
    cases b with
    | true => 
      rw [if_pos rfl] at q ⊢
      refine Ev.mono q fun v μ₃ q => ?_
      obtain ⟨σ₃, hs₃, q⟩ := q; exact CLoop.ind enc I hnil hcons r _ σ₃ μ₃ q _ hs₃
    | false =>
      rw [if_neg Bool.false_ne_true] at q ⊢
      obtain ⟨σ₃, hs₃, q⟩ := q; exact CLoop.ind enc I hnil hcons r _ σ₃ μ₂ q _ hs₃
noncomputable abbrev pureP (prog : Program) (w : World) (base : Heap) (n : Nat) (sc : Scope) (elt : Expr) (G : List α → List MV) (σ₀ : Sg) (μ : Mu) (done : List α) (a : α) (σ₁ : Sg) : Bool → Mu → Prop := fun b μ₂ => match b with
  | true => Ev prog w base n sc elt σ₁ μ₂ (fun v μ₃ => μ = μ₃ ∧ Sub σ₀ σ₁ ∧ G done ++ [v] = G (done ++ [a]))
  | false => μ = μ₂ ∧ Sub σ₀ σ₁ ∧ G done = G (done ++ [a])
/-- a list comprehension that makes nothing but its list -/
theorem CLoop.pure {t ifs elt cond} {post : List MV → Mu → Prop} (enc : α → MV) (G : List α → List MV) (all : List α) (σ₀ : Sg) (h0 : G [] = [])
    (hnil : cond μ ∧ post (G all) μ)
    (hcons : ∀ a done rest, all = done ++ a :: rest → cond μ ∧ (G done).length ≤ 1000 ∧ Asg true prog w base n sc t (enc a) σ₀ μ (fun σ₁ μ₁ => Tests prog w base n sc ifs σ₁ μ₁ (pureP prog w base n sc elt G σ₀ μ done a σ₁))) (hs : Sub σ₀ σ') :
    CLoop prog w base n sc t ifs elt cond post (all.map enc) [] σ' μ := by
  refine CLoop.ind enc (fun rest acc σ μ' => σ = σ₀ ∧ μ' = μ ∧ ∃ done, all = done ++ rest ∧ acc = G done) ?_ ?_ all [] σ₀ μ ⟨rfl, rfl, [], rfl, h0.symm⟩ σ' hs
  · rintro acc σ μ' ⟨rfl, rfl, done, hd, rfl⟩
    rw [List.append_nil] at hd
    rw [← hd]; exact hnil
  · rintro a rest acc σ μ' ⟨rfl, rfl, done, hd, rfl⟩
    obtain ⟨h1, h2, h3⟩ := hcons a done rest hd
    refine ⟨h1, h2, h3.mono fun σ₁ μ₁ p => p.mono fun b μ₂ q => ?_⟩
    have hd' : all = (done ++ [a]) ++ rest := by rw [hd, List.append_assoc]; rfl
    cases b with
    | true =>
      rw [if_pos rfl]
      refine Ev.mono q fun v μ₃ q => ?_
      obtain ⟨e, s, g⟩ := q
      exact ⟨_, s, rfl, e.symm, _, hd', g⟩
    | false =>
      rw [if_neg Bool.false_ne_true]
      obtain ⟨e, s, g⟩ := q
      exact ⟨_, s, rfl, e.symm, _, hd', g⟩
theorem CLoopL.ind {m : Nat} {t ifs elt cond} {post : List MV → Mu → Prop} (enc : α → MV) (I : List α → List MV → Sg → Mu → Prop)
    (hnil : ∀ acc σ μ, I [] acc σ μ → cond μ ∧ post acc μ)
    (hcons : ∀ a r acc σ μ, I (a :: r) acc σ μ → cond μ ∧ acc.length ≤ 1000 ∧ Asg true prog w base n sc t (enc a) σ μ (fun σ₁ μ₁ => Tests prog w base n sc ifs σ₁ μ₁ (fun b μ₂ =>
      if b then EvL m prog w base n sc elt σ₁ μ₂ (fun v μ₃ => ∃ σ₃, Sub σ₃ σ₁ ∧ I r (acc ++ [v]) σ₃ μ₃)
      else ∃ σ₃, Sub σ₃ σ₁ ∧ I r acc σ₃ μ₂))) :
    ∀ (l : List α) (acc : List MV) (σ : Sg) (μ : Mu), I l acc σ μ → ∀ σ', Sub σ σ' → CLoopL m prog w base n sc t ifs elt cond post (l.map enc) acc σ' μ
  | [], acc, σ, μ, h, σ', _ => hnil acc σ μ h
  | a :: r, acc, σ, μ, h, σ', hs => by
    obtain ⟨h1, h2, h3⟩ := hcons a r acc σ μ h
    refine ⟨h1, h2, (h3.sub hs).mono fun σ₁ μ₁ p => p.mono fun b μ₂ q => ?_⟩
    cases b with
    | true => 
      rw [if_pos rfl] at q ⊢
      refine EvL.mono q fun v μ₃ q => ?_
      obtain ⟨σ₃, hs₃, q⟩ := q; exact CLoopL.ind enc I hnil hcons r _ σ₃ μ₃ q _ hs₃
    | false =>
      rw [if_neg Bool.false_ne_true] at q ⊢
      obtain ⟨σ₃, hs₃, q⟩ := q; exact CLoopL.ind enc I hnil hcons r _ σ₃ μ₂ q _ hs₃
theorem DLoop.ind {t kx vx cond} {post : Sg → Mu → Prop} (enc : α → MV) (I : List α → Sg → Sg → Mu → Prop)
    (hnil : ∀ acc σ μ, I [] acc σ μ → cond μ ∧ post acc μ)
    (hcons : ∀ a r acc σ μ, I (a :: r) acc σ μ → cond μ ∧ acc.length ≤ 1000 ∧ Asg true prog w base n sc t (enc a) σ μ (fun σ₁ μ₁ => Ev prog w base n sc kx σ₁ μ₁ (fun kv μ₂ => ∃ k, kv = .str k ∧
      Ev prog w base n sc vx σ₁ μ₂ (fun v μ₃ => ∃ σ₃, Sub σ₃ σ₁ ∧ I r (put k v acc) σ₃ μ₃)))) :
    ∀ (l : List α) (acc : Sg) (σ : Sg) (μ : Mu), I l acc σ μ → ∀ σ', Sub σ σ' → DLoop prog w base n sc t kx vx cond post (l.map enc) acc σ' μ
  | [], acc, σ, μ, h, σ', _ => hnil acc σ μ h
  | a :: r, acc, σ, μ, h, σ', hs => by
    obtain ⟨h1, h2, h3⟩ := hcons a r acc σ μ h
    refine ⟨h1, h2, (h3.sub hs).mono fun σ₁ μ₁ p => Ev.mono p fun kv μ₂ q => ?_⟩
    obtain ⟨k, e, q⟩ := q
    refine ⟨k, e, Ev.mono q fun v μ₃ q => ?_⟩
    obtain ⟨σ₃, hs₃, q⟩ := q; exact DLoop.ind enc I hnil hcons r _ σ₃ μ₃ q _ hs₃
end
end Mine
namespace Mine
set_option tactic.hygienic false

noncomputable def sp (f : Nat) : List Nat := List.replicate f 32
noncomputable def lst (l : List Nat) : Str := ⟨l.toArray⟩
noncomputable def txt (f b : Nat) : Str := lst (sp f ++ 9 :: sp b)
theorem lst_inj {a b : List Nat} (h : lst a = lst b) : a = b := by unfold lst at h; injection h with h; simpa using h
theorem lst_len (l : List Nat) : (lst l).length = l.length := by show l.toArray.size = _; simp
theorem lst_app (a b : List Nat) : lst a ++ lst b = lst (a ++ b) := by
  show Str.mk (a.toArray ++ b.toArray) = ⟨(a ++ b).toArray⟩
  simp
theorem sp_lit : (" " : Str) = lst [32] := by kernel_rfl
theorem tab_lit : ("\t" : Str) = lst [9] := by kernel_rfl
theorem nil_lit : ("" : Str) = lst [] := by kernel_rfl
theorem sp_len (f : Nat) : (sp f).length = f := List.length_replicate ..
theorem sp_succ (f : Nat) : sp (f + 1) = 32 :: sp f := rfl
theorem sp_snoc (f : Nat) : sp f ++ [32] = sp (f + 1) := by unfold sp; rw [List.replicate_succ']
theorem txt_len (f b : Nat) : (txt f b).length = f + 1 + b := by unfold txt; rw [lst_len, List.length_append, List.length_cons, sp_len, sp_len]; lia
theorem txt_snoc (f b : Nat) : txt f b ++ (" " : Str) = txt f (b + 1) := by
  rw [sp_lit]; unfold txt; rw [lst_app, List.append_assoc, List.cons_append, sp_snoc]
theorem txt_cons (f b : Nat) : (" " : Str) ++ txt f b = txt (f + 1) b := by
  rw [sp_lit]; unfold txt; rw [lst_app]; rfl
theorem tab_txt : ("\t" : Str) = txt 0 0 := tab_lit
theorem txt_inj {f b f' b' : Nat} (h : txt f b = txt f' b') : f = f' ∧ b = b' := by
  have h := lst_inj h
  have h1 := congrArg (List.takeWhile (· == 32)) h
  have tw : ∀ k r, List.takeWhile (· == 32) (sp k ++ 9 :: r) = sp k := by
    intro k r
    induction k with
    | zero => rfl
    | succ k ih => rw [sp_succ, List.cons_append, List.takeWhile_cons_of_pos (by rfl), ih]
  rw [tw, tw] at h1
  have e : f = f' := by have := congrArg List.length h1; rwa [sp_len, sp_len] at this
  subst e
  refine ⟨rfl, ?_⟩
  have := congrArg List.length h
  simp only [List.length_append, List.length_cons, sp_len] at this
  lia
theorem mul_foldl (x : Array Nat) : ∀ (k : Nat) (acc : Array Nat), ((List.replicate k x).foldl (· ++ ·) acc).toList = acc.toList ++ (List.replicate k x.toList).flatten
  | 0, acc => by simp
  | k + 1, acc => by rw [List.replicate_succ, List.foldl_cons, mul_foldl x k, List.replicate_succ, List.flatten_cons]; simp
theorem mul_one (c : Nat) (k : Int) : Txt.mul (lst [c]) k = lst (List.replicate k.toNat c) := by
  unfold Txt.mul
  by_cases h : k < 1
  · rw [if_pos h, show k.toNat = 0 by lia]; rfl
  · rw [if_neg h]
    by_cases h2 : k = 1
    · subst h2; rfl
    · have : (k == 1 || (lst [c]).length == 0) = false := by
        rw [lst_len]; simp [h2]
      rw [this, if_neg Bool.false_ne_true]
      unfold lst
      congr 1
      apply Array.ext'
      rw [mul_foldl]
      simp
theorem mul_sp (f : Nat) : Txt.mul (" " : Str) (f : Int) = lst (sp f) := by rw [sp_lit, mul_one]; rfl
theorem text_eq (f b : Nat) : Txt.mul (" " : Str) (f : Int) ++ ("\t" : Str) ++ Txt.mul (" " : Str) (b : Int) = txt f b := by
  rw [mul_sp, mul_sp, tab_lit, lst_app, lst_app]; unfold txt; rw [List.append_assoc]; rfl

theorem charAt_lst (l : List Nat) (i : Nat) (h : i < l.length) : Txt.charAt (lst l) (i : Int) = l[i]? := by
  unfold Txt.charAt
  rw [lst_len, seqIndex_of (Int.natCast_nonneg i) (by lia)]
  show l.toArray[((i : Int)).toNat]? = _
  simp
theorem item_lst (l : List Nat) (i : Nat) (c : Nat) (h : l[i]? = some c) : Txt.item (lst l) (i : Int) = lst [c] := by
  have hl : i < l.length := by
    rcases Nat.lt_or_ge i l.length with q | q
    · exact q
    · rw [List.getElem?_eq_none_iff.mpr q] at h; cases h
  unfold Txt.item
  rw [charAt_lst l i hl, h]; rfl
theorem at_txt (f b i : Nat) : (sp f ++ 9 :: sp b)[i]? = if i < f then some 32 else if i = f then some 9 else if i < f + 1 + b then some 32 else none := by
  by_cases h : i < f
  · rw [List.getElem?_append_left (by rw [sp_len]; exact h), if_pos h]
    unfold sp; rw [List.getElem?_replicate, if_pos h]
  · rw [if_neg h, List.getElem?_append_right (by rw [sp_len]; lia), sp_len]
    by_cases h2 : i = f
    · subst h2; simp
    · rw [if_neg h2]
      obtain ⟨j, rfl⟩ : ∃ j, i = f + 1 + j := ⟨i - f - 1, by lia⟩
      rw [show f + 1 + j - f = j + 1 by lia, List.getElem?_cons_succ]
      unfold sp; rw [List.getElem?_replicate]
      by_cases h3 : j < b
      · rw [if_pos h3, if_pos (by lia)]
      · rw [if_neg h3, if_neg (by lia)]

theorem lst_slice (l : List Nat) (a b : Nat) (hab : a ≤ b) (hb : b ≤ l.length) : Txt.slice (lst l) (some (a : Int)) (some (b : Int)) = lst ((l.drop a).take (b - a)) := by
  have hi : Builtin.Str.strSliceIndices (some (a : Int)) (some (b : Int)) 1 (lst l).length = (List.range (b - a)).map (a + ·) := by
    rw [lst_len]
    unfold Builtin.Str.strSliceIndices
    simp only [show (1 : Int) > 0 by decide, if_true, show ¬ ((a : Int) < 0) by lia, show ¬ ((b : Int) < 0) by lia, if_false]
    rw [show max 0 (min (a : Int) (l.length : Int)) = (a : Int) by lia, show max 0 (min (b : Int) (l.length : Int)) = (b : Int) by lia, sliceRange_one]
  have hpick : ((List.range (b - a)).map (a + ·)).filterMap (fun x => (lst l).cps[x]?) = (l.drop a).take (b - a) := by
    have := pick_run l.toArray a (b - a)
    rw [List.toList_toArray] at this
    exact this
  unfold Txt.slice
  rw [hi, hpick]
  by_cases q : ((1 : Int) == 1 && (List.map (fun x => a + x) (List.range (b - a))).length == (lst l).length) = true
  · rw [if_pos q]
    have q2 : b - a = l.length := by simpa [lst_len] using q
    have e1 : a = 0 := by lia
    subst e1
    rw [List.drop_zero, List.take_of_length_le (by lia)]
  · rw [if_neg q]; rfl
theorem txt_slice (f b x y : Nat) (hx : x ≤ f) (hy : y ≤ b) : Txt.slice (txt f b) (some (x : Int)) (some ((f + 1 + b - y : Nat) : Int)) = txt (f - x) (b - y) := by
  unfold txt
  rw [lst_slice _ _ _ (by lia) (by rw [List.length_append, List.length_cons, sp_len, sp_len]; lia)]
  congr 1
  rw [List.drop_append_of_le_length (by rw [sp_len]; exact hx)]
  have e1 : (sp f).drop x = sp (f - x) := by unfold sp; rw [List.drop_replicate]
  rw [e1, List.take_append, sp_len, List.take_of_length_le (by rw [sp_len]; lia)]
  congr 1
  rw [show f + 1 + b - y - x - (f - x) = (b - y) + 1 by lia, List.take_succ_cons]
  congr 1
  unfold sp; rw [List.take_replicate]; congr 1; lia

/-! names -/
noncomputable def nm (i : Nat) (u : Bool) : Str := lst [(if u then 65 else 97) + i]
theorem nm_lower : ∀ i < 5, ∀ u, Txt.lower (nm i u) = nm i false := by decide +kernel
theorem nm_upper : ∀ i < 5, Txt.upper (nm i false) = nm i true := by decide +kernel
theorem nm_fit : ∀ i < 5, ∀ u, Builtin.Str.tooLong (Txt.lower (nm i u)).length = false ∧ Builtin.Str.tooLong (Txt.upper (nm i u)).length = false := by decide +kernel
theorem nm_inj {i j : Nat} {u v : Bool} (hi : i < 5) (hj : j < 5) (h : nm i u = nm j v) : i = j ∧ u = v := by
  have := lst_inj h
  simp at this
  cases u <;> cases v <;> simp at this ⊢ <;> lia
theorem nm_len (i : Nat) (u : Bool) : (nm i u).length = 1 := rfl
end Mine
namespace Mine
set_option tactic.hygienic false
noncomputable def outOf : Except String (Bool × Sre.Seen) → Option Bool
  | .ok (b, _) => some b
  | .error _ => none
theorem inSet_indep (code : Array Nat) (c : Nat) : ∀ (fuel i : Nat) (yes : Bool) (s1 s2 : Sre.Seen), outOf (Sre.inSet code c fuel i yes s1) = outOf (Sre.inSet code c fuel i yes s2)
  | 0, _, _, _, _ => rfl
  | fuel + 1, i, yes, s1, s2 => by
    unfold Sre.inSet
    dsimp only
    split
    · rfl
    · exact inSet_indep code c fuel _ _ _ _
    · split
      · rfl
      · exact inSet_indep code c fuel _ _ _ _
    · split
      · rfl
      · exact inSet_indep code c fuel _ _ _ _
    · split
      · rfl
      · exact inSet_indep code c fuel _ _ _ _
    · cases Sre.category (code.getD (i + 1) 0) c with
      | error e => rfl
      | ok b =>
        cases b with
        | true => rfl
        | false => exact inSet_indep code c fuel _ _ _ _
    · split
      · rfl
      · exact inSet_indep code c fuel _ _ _ _
    · split
      · rfl
      · exact inSet_indep code c fuel _ _ _ _
    · rfl
theorem inSet_none {code : Array Nat} {c : Nat} (h : outOf (Sre.inSet code c code.size 5 true {}) = some false) (seen : Sre.Seen) : ∃ seen', Sre.inSet code c code.size 5 true seen = .ok (false, seen') := by
  rw [inSet_indep code c code.size 5 true {} seen] at h
  cases e : Sre.inSet code c code.size 5 true seen with
  | error _ => rw [e] at h; cases h
  | ok p => obtain ⟨b, s⟩ := p; rw [e] at h; cases h; exact ⟨s, rfl⟩
end Mine
namespace Mine
section
local macro_rules | `(tactic| o_head $_) => `(tactic| assumption)
theorem frag (h : OpenRow.Holds PySem.Challenge.rw_rs0218_01.row) : True := by
  have h2 : OpenRow.Holds PySem.Challenge.rw_rs0218_01.row := by k_head
  trivial
end
end Mine
namespace Mine
set_option tactic.hygienic false

theorem look_here {x : Str} {v : MV} {r : Sg} : List.lookup x ((x, v) :: r) = some v := by rw [List.lookup_cons, beq_self_eq_true]
theorem look_next {x y : Str} {u v : MV} {r : Sg} (h : (x == y) = false) (e : List.lookup x r = some v) : List.lookup x ((y, u) :: r) = some v := by rw [List.lookup_cons, h]; exact e
theorem look_put {x : Str} {v : MV} {r : Sg} : List.lookup x (put x v r) = some v := by rw [lookup_put, if_pos rfl]
theorem look_putn {x y : Str} {u v : MV} {r : Sg} (h : (x == y) = false) (e : List.lookup x r = some v) : List.lookup x (put y u r) = some v := by rw [lookup_put, if_neg (beq_eq_false_iff_ne.mp h)]; exact e
section
variable (P : Params)
theorem g_strip : nsIn (frag.heap_1 P) mainGlobals "_strip_padding" = some (some (.ref 45)) := by kernel_rfl
theorem g_White : nsIn (frag.heap_1 P) mainGlobals "Whitespace" = some (some (.ref 107)) := by kernel_rfl
theorem g_nre : nsIn (frag.heap_1 P) mainGlobals "_name_disallowed_re" = some (some (.ref 116)) := by kernel_rfl
theorem g_vre : nsIn (frag.heap_1 P) mainGlobals "_value_disallowed_re" = some (some (.ref 121)) := by kernel_rfl
theorem g_Headers : nsIn (frag.heap_1 P) mainGlobals "Headers" = some (some (.ref 244)) := by kernel_rfl
theorem g_asked : nsIn (frag.heap_1 P) mainGlobals "_law_asked" = some (some (.ref 255)) := by kernel_rfl
theorem g_text : nsIn (frag.heap_1 P) mainGlobals "_law_text" = some (some (.ref 262)) := by kernel_rfl
theorem g_grown : nsIn (frag.heap_1 P) mainGlobals "_law_grown" = some (some (.ref 269)) := by kernel_rfl
theorem g_struck : nsIn (frag.heap_1 P) mainGlobals "_law_struck" = some (some (.ref 276)) := by kernel_rfl
theorem g_taken : nsIn (frag.heap_1 P) mainGlobals "_law_taken_over" = some (some (.ref 281)) := by kernel_rfl
theorem g_plain : nsIn (frag.heap_1 P) mainGlobals "_law_plain" = some (some (.ref 286)) := by kernel_rfl
theorem g_lead : nsIn (frag.heap_1 P) mainGlobals "_law_lead" = some (some (.ref 291)) := by kernel_rfl
theorem g_witness : nsIn (frag.heap_1 P) mainGlobals "_law_witness" = some (some (.ref 296)) := by kernel_rfl
theorem b_none (x : Str) (h : x ∈ [("len" : Str), "max", "min", "sum", "tuple", "list", "type", "range", "enumerate"]) : nsIn (frag.heap_1 P) mainGlobals x = some none := by
  simp only [List.mem_cons, List.not_mem_nil, or_false] at h
  rcases h with rfl | rfl | rfl | rfl | rfl | rfl | rfl | rfl | rfl <;> kernel_rfl
end
theorem bb_len : bootBuiltins "len" = some (.builtin "len") := by kernel_rfl
theorem bb_max : bootBuiltins "max" = some (.builtin "max") := by kernel_rfl
theorem bb_min : bootBuiltins "min" = some (.builtin "min") := by kernel_rfl
theorem bb_sum : bootBuiltins "sum" = some (.builtin "sum") := by kernel_rfl
theorem bb_tuple : bootBuiltins "tuple" = some (.type "tuple") := by kernel_rfl
theorem bb_list : bootBuiltins "list" = some (.type "list") := by kernel_rfl
theorem bb_type : bootBuiltins "type" = some (.type "type") := by kernel_rfl
theorem bb_range : bootBuiltins "range" = some (.type "range") := by kernel_rfl
theorem bb_enum : bootBuiltins "enumerate" = some (.type "enumerate") := by kernel_rfl
theorem bb_str : bootBuiltins "str" = some (.type "str") := by kernel_rfl

section
variable {w : World} {base : Heap} {prog : Program} {n : Nat} {μ : Mu} {f : Value} {args : List MV} {kw : List (Str × MV)} {post : MV → Mu → Prop}
theorem Fn.eqs {a : MV} (x : Fn prog w base n f args kw μ (fun v μ' => v = a ∧ μ = μ')) (h : post a μ) : Fn prog w base n f args kw μ post := x.mono (by rintro _ _ ⟨rfl, rfl⟩; exact h)
theorem Fn.news {o : MO} (x : Fn prog w base n f args kw μ (fun v μ' => ∃ D, v = .ref D ∧ μ D = none ∧ μ' = μ.set D o)) (h : ∀ D, μ D = none → post (.ref D) (μ.set D o)) : Fn prog w base n f args kw μ post :=
  x.mono (by rintro _ _ ⟨D, rfl, hD, rfl⟩; exact h D hD)
end
theorem mul_val {a b : Int} : a * b = a * b := rfl
end Mine
namespace Mine
set_option tactic.hygienic false
set_option compiler.extract_closed false
local macro_rules | `(tactic| array_get_dec) => `(tactic| first
  | with_reducible exact look_here
  | with_reducible exact look_put
  | ((with_reducible refine look_next (by decide +kernel) ?_); array_get_dec)
  | ((with_reducible refine look_putn (by decide +kernel) ?_); array_get_dec))
local macro_rules | `(tactic| sizeOf_list_dec) => do
  let q ← #[`Exs.cons, `Exs.nil, `Ex.return_some, `Ev.const_int, `Ev.const_str, `Ev.const_bool, `Ev.const_none, `Ev.ifexp, `Ev.binop, `Ev.unop, `Tr.not, `Tr.and2, `Tr.or2, `Evs.nil, `Ev.tuple, `Ev.list, `Kws.nil, `Kws.one, `Op.eq_int, `Op.ne_int, `Op.lt_int, `Op.le_int, `Op.gt_int, `Op.ge_int, `Op.add_int, `Op.iadd_int, `Op.sub_int, `Op.isub_int, `Op.neg_int, `TruthT.bool, `Op.is_bool, `Op.isnot_bool, `Op.is_type, `Op.isnot_type, `TruthT.int, `TruthT.none_, `Op.eq_str, `Op.ne_str, `Ex.if_, `Ev.debug].mapM fun a => `(tactic| with_reducible refine $(Lean.mkIdent a) ?_)
  let r ← #[`Ev.compare, `Tr.compare, `Tr.chain2, `Evs.cons, `Tr.plain].mapM fun a => `(tactic| ((with_reducible refine $(Lean.mkIdent a) ?_ ?b); (case b => first | (intro _; rfl) | with_unfolding_all rfl)))
  `(tactic| first
  $[| $q:tactic]*
  | ((with_reducible refine Ex.assign_name ?a ?_ ?b); (case b => (intro _; rfl)); (case a => kernel_rfl))
  | ((with_reducible refine Ex.augassign (mv := ?m) ?a ?b ?_); (case a => kernel_rfl); (case b => array_get_dec))
  | ((with_reducible refine Ev.name (mv := ?m) ?a ?_ ?c); (case c => decide +kernel); (case a => array_get_dec))
  | ((with_reducible refine Ev.item ?_ ?b); (case b => (intro _ _; exact ⟨_, rfl⟩)))
  | ((with_reducible refine Op.is_none ?a ?_); (case a => rfl))
  | ((with_reducible refine Op.isnot_none ?a ?_); (case a => rfl))
  $[| $r:tactic]*)
section
variable {w : World} {base : Heap} {prog : Program} {n : Nat} {μ : Mu}

theorem FnC.pos1 {a : MV} {x : Str} {fd : FuncData} (hb : ∀ v, bindArgs fd ⟨[v], []⟩ = pure [(x, v)]) : ∀ (s : Shared) vs kvs, HR w.params base μ s.heap → IsL s.heap [a] vs → IsL s.heap (([] : Sg).map (·.2)) kvs →
    ∃ binds, BindsTo s fd ⟨vs, (([] : Sg).map (·.1)).zip kvs⟩ binds ∧ BindIs s.heap [(x, a)] binds := by
  intro s vs kvs H i j
  rcases i with _ | ⟨i, k⟩
  cases k; cases j
  exact ⟨_, .of_eq (hb _), .cons i .nil⟩
theorem FnC.pos2 {a b : MV} {x y : Str} {fd : FuncData} (hb : ∀ v u, bindArgs fd ⟨[v, u], []⟩ = pure [(x, v), (y, u)]) : ∀ (s : Shared) vs kvs, HR w.params base μ s.heap → IsL s.heap [a, b] vs → IsL s.heap (([] : Sg).map (·.2)) kvs →
    ∃ binds, BindsTo s fd ⟨vs, (([] : Sg).map (·.1)).zip kvs⟩ binds ∧ BindIs s.heap [(x, a), (y, b)] binds := by
  intro s vs kvs H i j
  rcases i with _ | ⟨i, k⟩
  rcases k with _ | ⟨k, l⟩
  cases l; cases j
  exact ⟨_, .of_eq (hb _ _), .cons i (.cons k .nil)⟩
theorem FnC.pos3 {a b c : MV} {x y z : Str} {fd : FuncData} (hb : ∀ v u t, bindArgs fd ⟨[v, u, t], []⟩ = pure [(x, v), (y, u), (z, t)]) : ∀ (s : Shared) vs kvs, HR w.params base μ s.heap → IsL s.heap [a, b, c] vs → IsL s.heap (([] : Sg).map (·.2)) kvs →
    ∃ binds, BindsTo s fd ⟨vs, (([] : Sg).map (·.1)).zip kvs⟩ binds ∧ BindIs s.heap [(x, a), (y, b), (z, c)] binds := by
  intro s vs kvs H i j
  rcases i with _ | ⟨i, k⟩
  rcases k with _ | ⟨k, l⟩
  rcases l with _ | ⟨l, m⟩
  cases m; cases j
  exact ⟨_, .of_eq (hb _ _ _), .cons i (.cons k (.cons l .nil))⟩

theorem fn_grown (W : WF w (frag.heap_1 w.params) base) {f b side : Nat} (hs : side ≤ 1) (hf : f ≤ 1000) (hb : b ≤ 1000) :
    FnC prog w base (n + 1) (.ref 269) [.str (txt f b), .int side] [] μ (fun v μ' => v = .str (txt (f + 1 - side) (b + side)) ∧ μ = μ') := by
  refine FnC.def_ (σ₀ := [("value", .str (txt f b)), ("side", .int side)]) W ⟨_, _, _, rfl, ?hc, rfl, rfl, rfl, rfl, rfl, rfl, rfl⟩ (FnC.pos2 fun zz zz => rfl) ?hn (by kernel_rfl) ?_
  case hc => kernel_rfl
  case hn => (show List.Nodup [("value" : Str), "side"]; decide +kernel)
  dsimp only
  have l1 : ((" " : Str)).length = 1 := by kernel_rfl
  iterate 8 sizeOf_list_dec
  by_cases q : side = 1
  · subst q
    rw [if_pos (by rfl)]
    iterate 3 sizeOf_list_dec
    refine Op.add_str (by rw [txt_len, l1]; lia) ⟨?_, rfl⟩
    rw [txt_snoc]; rfl
  · have : side = 0 := by lia
    subst this
    rw [if_neg (by decide)]
    iterate 3 sizeOf_list_dec
    refine Op.add_str (by rw [txt_len, l1]; lia) ⟨?_, rfl⟩
    rw [txt_cons]; rfl

theorem fits_nat {j : Nat} (h : j ≤ 100000) : fitsSsize (j : Int) = true := by unfold fitsSsize; simp; lia
theorem ItemT.txt_at {f b j c : Nat} {post : MV → Mu → Prop} (hj : j < f + 1 + b) (hz : j ≤ 100000) (hat : (sp f ++ 9 :: sp b)[j]? = some c) (h : post (.str (lst [c])) μ) : ItemT prog w base n (.str (txt f b)) (.int (j : Int)) μ post := by
  have hl : j < (sp f ++ 9 :: sp b).length := by rw [List.length_append, List.length_cons, sp_len, sp_len]; lia
  refine ItemT.str (fits_nat hz) (by unfold txt; rw [charAt_lst _ _ hl, hat]; rfl) ?_
  unfold txt; rw [item_lst _ _ _ hat]; exact h
theorem ItemT.txt_sp {f b j : Nat} {post : MV → Mu → Prop} (hj : j < f + 1 + b) (hz : j ≤ 100000) (hat : (sp f ++ 9 :: sp b)[j]? = some 32) (h : post (.str " ") μ) : ItemT prog w base n (.str (txt f b)) (.int (j : Int)) μ post :=
  ItemT.txt_at hj hz hat (by rw [← sp_lit]; exact h)
theorem ItemT.txt_tab {f b j : Nat} {post : MV → Mu → Prop} (hj : j < f + 1 + b) (hz : j ≤ 100000) (hat : (sp f ++ 9 :: sp b)[j]? = some 9) (h : post (.str "\t") μ) : ItemT prog w base n (.str (txt f b)) (.int (j : Int)) μ post :=
  ItemT.txt_at hj hz hat (by rw [← tab_lit]; exact h)
theorem sub_min1 (a b : Nat) : a - min a b = a - b := by
  rcases Nat.le_total a b with h | h
  · rw [Nat.min_eq_left h, Nat.sub_self, Nat.sub_eq_zero_of_le h]
  · rw [Nat.min_eq_right h]
theorem sub_min2 (a b : Nat) : b - min a b = b - a := by rw [Nat.min_comm, sub_min1]
noncomputable abbrev sgStrip (s : Str) (a l : Nat) : Sg := [("s", .str s), ("amount", .int (a : Int)), ("lpos", .int (l : Int))]
noncomputable abbrev sgStrip2 (s : Str) (a l : Nat) (r : Int) : Sg := [("s", .str s), ("amount", .int (a : Int)), ("lpos", .int (l : Int)), ("rpos", .int r)]
theorem look_eq {x : Str} {u v : MV} {σ : Sg} (h : σ.lookup x = some u) (e : u = v) : σ.lookup x = some v := e ▸ h
theorem int_eq {a b : Int} (e : a = b) : MV.int a = MV.int b := congrArg _ e
theorem fn_strip (W : WF w (frag.heap_1 w.params) base) {f b k : Nat} (hf : f ≤ 1000) (hb : b ≤ 1000) (hk : k ≤ 1000) :
    FnC prog w base (n + 1) (.ref 45) [.str (txt f b), .int k] [] μ (fun v μ' => v = .str (txt (f - k) (b - (k - f))) ∧ μ = μ') := by
  refine FnC.def_ (σ₀ := [("s", .str (txt f b)), ("amount", .int k)]) W ⟨_, _, _, rfl, ?hc, rfl, rfl, rfl, rfl, rfl, rfl, rfl⟩ (FnC.pos2 fun zz zz => rfl) ?hn (by kernel_rfl) ?_
  case hc => kernel_rfl
  case hn => (show List.Nodup [("s" : Str), "amount"]; decide +kernel)
  dsimp only
  have hlen := txt_len f b
  iterate 3 sizeOf_list_dec
  refine Exs.cons (Ex.mono (post := fun g σ' μ' => g = .next ∧ μ' = μ ∧ Sub (sgStrip (txt f b) (k - min f k) (min f k)) σ') ?_ ?_)
  · refine Ex.while' (fun m σ μ' => ∃ j, j ≤ f ∧ j ≤ k ∧ m = k - j ∧ μ' = μ ∧ σ = sgStrip (txt f b) (k - j) j) k (sgStrip (txt f b) k 0)
      (.cons (by array_get_dec) (.cons (by array_get_dec) (.cons (look_eq (by array_get_dec) (int_eq (a := 0) (by rfl))) .nil))) ⟨0, Nat.zero_le _, Nat.zero_le _, rfl, rfl, rfl⟩ ?_
    rintro m σ μ' ⟨j, hj1, hj2, rfl, rfl, rfl⟩
    iterate 4 sizeOf_list_dec
    by_cases h0 : k - j = 0
    · have e0 : ((((k - j : Nat) : Int)) != 0) = false := by rw [h0]; rfl
      rw [e0, if_neg Bool.false_ne_true, if_neg Bool.false_ne_true]
      have e : min f k = j := by lia
      refine ⟨rfl, rfl, ?_⟩
      rw [e]; exact .cons (by array_get_dec) (.cons (by array_get_dec) (.cons (by array_get_dec) .nil))
    · have e0 : ((((k - j : Nat) : Int)) != 0) = true := by simp; lia
      rw [e0, if_pos rfl]
      sizeOf_list_dec
      with_reducible refine Ev.item ?_ ?b
      case b => (intro _ _; exact ⟨_, rfl⟩)
      iterate 2 sizeOf_list_dec
      have hat := at_txt f b j
      by_cases hjf : j < f
      · rw [if_pos hjf] at hat
        refine ItemT.txt_sp (by lia) (by lia) hat ?_
        iterate 3 sizeOf_list_dec
        rw [if_pos (by simp)]
        iterate 8 sizeOf_list_dec
        refine Exs.nil ?_
        exact ⟨k - (j + 1), sgStrip (txt f b) (k - (j + 1)) (j + 1), by lia, .cons (by array_get_dec) (.cons (look_eq (by array_get_dec) (int_eq (by lia))) (.cons (look_eq (by array_get_dec) (int_eq (by lia))) .nil)), j + 1, by lia, by lia, rfl, rfl, rfl⟩
      · have ej : j = f := by lia
        rw [if_neg hjf, if_pos ej] at hat
        refine ItemT.txt_tab (by lia) (by lia) hat ?_
        iterate 3 sizeOf_list_dec
        rw [if_neg (by decide +kernel)]
        have e : min f k = j := by lia
        refine ⟨rfl, rfl, ?_⟩
        rw [e]; exact .cons (by array_get_dec) (.cons (by array_get_dec) (.cons (by array_get_dec) .nil))
  · rintro g σ' μ' ⟨rfl, rfl, hs⟩
    refine Exs.sub ?_ hs
    sizeOf_list_dec
    sizeOf_list_dec
    sizeOf_list_dec
    refine Ev.call_b W (by kernel_rfl) (b_none _ _ (by simp)) bb_len rfl ?_
    iterate 4 sizeOf_list_dec
    refine Fn.len_str (by lia) ?_
    iterate 2 sizeOf_list_dec
    generalize hx : min f k = x
    generalize hy : k - x = y
    refine Exs.cons (Ex.mono (post := fun g σ' μ₂ => g = .next ∧ μ₂ = μ' ∧ Sub (sgStrip2 (txt f b) (y - min b y) x ((f + 1 + b - min b y : Nat) - 1)) σ') ?_ ?_)
    · refine Ex.while' (fun m σ μ₂ => ∃ j, j ≤ b ∧ j ≤ y ∧ m = y - j ∧ μ₂ = μ' ∧ σ = sgStrip2 (txt f b) (y - j) x ((f + 1 + b - j : Nat) - 1)) y (sgStrip2 (txt f b) y x ((f + 1 + b - 0 : Nat) - 1))
        (.cons (by array_get_dec) (.cons (by array_get_dec) (.cons (by array_get_dec) (.cons (look_eq (by array_get_dec) (int_eq (by lia))) .nil)))) ⟨0, Nat.zero_le _, Nat.zero_le _, rfl, rfl, rfl⟩ ?_
      rintro m σ μ₂ ⟨j, hj1, hj2, rfl, rfl, rfl⟩
      iterate 4 sizeOf_list_dec
      by_cases h0 : y - j = 0
      · have e0 : ((((y - j : Nat) : Int)) != 0) = false := by rw [h0]; rfl
        rw [e0, if_neg Bool.false_ne_true, if_neg Bool.false_ne_true]
        have e : min b y = j := by lia
        refine ⟨rfl, rfl, ?_⟩
        rw [e]; exact .cons (by array_get_dec) (.cons (by array_get_dec) (.cons (by array_get_dec) (.cons (by array_get_dec) .nil)))
      · have e0 : ((((y - j : Nat) : Int)) != 0) = true := by simp; lia
        rw [e0, if_pos rfl]
        have hxf : x = f := by lia
        sizeOf_list_dec
        with_reducible refine Ev.item ?_ ?b
        case b => (intro _ _; exact ⟨_, rfl⟩)
        iterate 2 sizeOf_list_dec
        have hat := at_txt f b (f + b - j)
        have ei : ((f + 1 + b - j : Nat) : Int) - 1 = ((f + b - j : Nat) : Int) := by lia
        rw [ei]
        by_cases hjb : j < b
        · rw [if_neg (by lia), if_neg (by lia), if_pos (by lia)] at hat
          refine ItemT.txt_sp (by lia) (by lia) hat ?_
          iterate 3 sizeOf_list_dec
          rw [if_pos (by simp)]
          iterate 8 sizeOf_list_dec
          refine Exs.nil ?_
          exact ⟨y - (j + 1), sgStrip2 (txt f b) (y - (j + 1)) x ((f + 1 + b - (j + 1) : Nat) - 1), by lia, .cons (by array_get_dec) (.cons (look_eq (by array_get_dec) (int_eq (by lia))) (.cons (by array_get_dec) (.cons (look_eq (by array_get_dec) (int_eq (by lia))) .nil))), j + 1, by lia, by lia, rfl, rfl, rfl⟩
        · have ej : j = b := by lia
          rw [if_neg (by lia), if_pos (by lia)] at hat
          refine ItemT.txt_tab (by lia) (by lia) hat ?_
          iterate 3 sizeOf_list_dec
          rw [if_neg (by decide +kernel)]
          have e : min b y = j := by lia
          refine ⟨rfl, rfl, ?_⟩
          rw [e]; exact .cons (by array_get_dec) (.cons (by array_get_dec) (.cons (by array_get_dec) (.cons (look_eq (by array_get_dec) (int_eq (by lia))) .nil)))
    · rintro g σ₂ μ₂ ⟨rfl, rfl, hs₂⟩
      refine Exs.sub ?_ hs₂
      iterate 2 sizeOf_list_dec
      with_reducible refine Ev.slice ?_ ?b
      case b => (intro _ _; exact ⟨_, rfl⟩)
      sizeOf_list_dec
      show Ev _ _ _ _ _ _ _ _ _
      sizeOf_list_dec
      refine ⟨_, rfl, ?_⟩
      show Ev _ _ _ _ _ _ _ _ _
      iterate 4 sizeOf_list_dec
      refine ⟨_, rfl, ?_⟩
      show SliceT _ _ _ _ _ _ _ _ _ _
      refine SliceT.str (by lia) ⟨?_, rfl⟩
      have e3 : (((f + 1 + b - min b y : Nat) : Int) - 1 + 1) = ((f + 1 + b - min b y : Nat) : Int) := by lia
      rw [e3, txt_slice f b x (min b y) (by lia) (by lia)]
      rw [← hy, ← hx, sub_min1, sub_min2, sub_min1]
end
noncomputable def patCode (P : Params) (q : Addr) : Array Nat := match (frag.heap_1 P).lookup q with
  | some ⟨_, _, .seq items _, _⟩ => (items.map Builtin.Re.reRawOf).map (·.toNat)
  | _ => #[]
theorem pat_name (P : Params) : PatIn (frag.heap_1 P) 116 (patCode P 115) := ⟨⟨_, _, _, _, _, _, _, _, rfl, rfl, rfl, rfl, rfl⟩⟩
theorem pat_val (P : Params) : PatIn (frag.heap_1 P) 121 (patCode P 120) := ⟨⟨_, _, _, _, _, _, _, _, rfl, rfl, rfl, rfl, rfl⟩⟩
theorem pat_name_ok (P : Params) : ((match Sre.ops[(patCode P 115).getD 0 0]? with | some .INFO => true | _ => false) && (patCode P 115).getD 2 0 == 4) = true := by kernel_rfl
theorem pat_val_ok (P : Params) : ((match Sre.ops[(patCode P 120).getD 0 0]? with | some .INFO => true | _ => false) && (patCode P 120).getD 2 0 == 4) = true := by kernel_rfl
theorem set_name (P : Params) : ∀ i < 5, ∀ u : Bool, outOf (Sre.inSet (patCode P 115) ((if u then 65 else 97) + i) (patCode P 115).size 5 true {}) = some false := by
  intro i hi u
  rcases i with _ | _ | _ | _ | _ | i
  · cases u <;> kernel_rfl
  · cases u <;> kernel_rfl
  · cases u <;> kernel_rfl
  · cases u <;> kernel_rfl
  · cases u <;> kernel_rfl
  · lia
theorem set_val (P : Params) : outOf (Sre.inSet (patCode P 120) 32 (patCode P 120).size 5 true {}) = some false ∧ outOf (Sre.inSet (patCode P 120) 9 (patCode P 120).size 5 true {}) = some false := ⟨by kernel_rfl, by kernel_rfl⟩
theorem none_name (P : Params) {i : Nat} (hi : i < 5) (u : Bool) : NoneOf (patCode P 115) (nm i u).cps := by
  intro j hj seen
  have hj : j = 0 := Nat.lt_one_iff.mp hj
  subst hj
  exact inSet_none (set_name P i hi u) seen
theorem none_val (P : Params) (f b : Nat) : NoneOf (patCode P 120) (txt f b).cps := by
  intro j hj seen
  have h1 : (txt f b).cps.getD j 0 = 32 ∨ (txt f b).cps.getD j 0 = 9 := by
    have e : (txt f b).cps.getD j 0 = ((sp f ++ 9 :: sp b)[j]?).getD 0 := by unfold txt lst; simp [Array.getD_eq_getD_getElem?]
    have hl : j < f + 1 + b := by have := txt_len f b; unfold Str.length at this; lia
    rw [e, at_txt]
    by_cases q1 : j < f
    · rw [if_pos q1]; exact .inl rfl
    · rw [if_neg q1]
      by_cases q2 : j = f
      · rw [if_pos q2]; exact .inr rfl
      · rw [if_neg q2, if_pos hl]; exact .inl rfl
  rcases h1 with h1 | h1
  · rw [h1]; exact inSet_none (set_val P).1 seen
  · rw [h1]; exact inSet_none (set_val P).2 seen

section
variable {w : World} {base : Heap} {prog : Program} {n : Nat} {μ : Mu}
theorem FnC.pos2k {a b c : MV} {x y z : Str} {fd : FuncData} (hb : ∀ v u t, ∃ binds, bindArgs fd ⟨[v, u], [(z, t)]⟩ = pure binds ∧ (binds = [(x, v), (y, u), (z, t)])) : ∀ (s : Shared) vs kvs, HR w.params base μ s.heap → IsL s.heap [a, b] vs → IsL s.heap (([(z, c)] : Sg).map (·.2)) kvs →
    ∃ binds, BindsTo s fd ⟨vs, (([(z, c)] : Sg).map (·.1)).zip kvs⟩ binds ∧ BindIs s.heap [(x, a), (y, b), (z, c)] binds := by
  intro s vs kvs H i j
  rcases i with _ | ⟨i, k⟩
  rcases k with _ | ⟨k, l⟩
  cases l
  rcases j with _ | ⟨j, m⟩
  cases m
  obtain ⟨binds, e1, e2⟩ := hb _ _ _
  subst e2
  exact ⟨_, .of_eq e1, .cons i (.cons k (.cons j .nil))⟩

theorem fn_conv_name (W : WF w (frag.heap_1 w.params) base) {x : Addr} {i : Nat} {u : Bool} (hi : i < 5) :
    FnC prog w base (n + 1) (.ref 143) [.ref x, .str (nm i u)] [("name", .bool true)] μ (fun v μ' => v = .str (nm i u) ∧ μ = μ') := by
  refine FnC.def_ (σ₀ := [("self", .ref x), ("value", .str (nm i u)), ("name", .bool true)]) W ⟨_, _, _, rfl, ?hc, rfl, rfl, rfl, rfl, rfl, rfl, rfl⟩ (FnC.pos2k fun zz zz zz => ⟨_, rfl, rfl⟩) ?hn (by kernel_rfl) ?_
  case hc => kernel_rfl
  case hn => (show List.Nodup [("self" : Str), "value", "name"]; decide +kernel)
  dsimp only
  repeat sizeOf_list_dec
  refine Ev.call_b W (by kernel_rfl) (b_none _ _ (by simp)) bb_type rfl ?_
  repeat sizeOf_list_dec
  refine Fn.type_str ?_
  refine Ev.builtin W (by kernel_rfl) (by kernel_rfl) bb_str (fun zz => .raw _) ?_
  repeat sizeOf_list_dec
  rw [if_pos (by decide)]
  repeat sizeOf_list_dec
  rw [if_pos rfl]
  refine Ev.global W (by kernel_rfl) (g_nre _) (fun zz => .raw _) ?_
  repeat sizeOf_list_dec
  refine Ev.meth_b ?_
  repeat sizeOf_list_dec
  refine MethB.intro (BM.pat W (pat_name _)) ?_
  repeat sizeOf_list_dec
  refine Fn.search W (pat_name _) (pat_name_ok _) (none_name _ hi u) (by rw [nm_len]; lia) ?_
  repeat sizeOf_list_dec
  rw [if_neg Bool.false_ne_true]
  repeat sizeOf_list_dec
  exact ⟨rfl, rfl⟩

theorem fn_conv_val (W : WF w (frag.heap_1 w.params) base) {x : Addr} {f b : Nat} (hf : f ≤ 1000) (hb : b ≤ 1000) :
    FnC prog w base (n + 1) (.ref 143) [.ref x, .str (txt f b)] [("name", .bool false)] μ (fun v μ' => v = .str (txt f b) ∧ μ = μ') := by
  refine FnC.def_ (σ₀ := [("self", .ref x), ("value", .str (txt f b)), ("name", .bool false)]) W ⟨_, _, _, rfl, ?hc, rfl, rfl, rfl, rfl, rfl, rfl, rfl⟩ (FnC.pos2k fun zz zz zz => ⟨_, rfl, rfl⟩) ?hn (by kernel_rfl) ?_
  case hc => kernel_rfl
  case hn => (show List.Nodup [("self" : Str), "value", "name"]; decide +kernel)
  dsimp only
  repeat sizeOf_list_dec
  refine Ev.call_b W (by kernel_rfl) (b_none _ _ (by simp)) bb_type rfl ?_
  repeat sizeOf_list_dec
  refine Fn.type_str ?_
  refine Ev.builtin W (by kernel_rfl) (by kernel_rfl) bb_str (fun zz => .raw _) ?_
  repeat sizeOf_list_dec
  rw [if_pos (by decide)]
  repeat sizeOf_list_dec
  rw [if_neg Bool.false_ne_true]
  refine Ev.global W (by kernel_rfl) (g_vre _) (fun zz => .raw _) ?_
  repeat sizeOf_list_dec
  refine Ev.meth_b ?_
  repeat sizeOf_list_dec
  refine MethB.intro (BM.pat W (pat_val _)) ?_
  repeat sizeOf_list_dec
  refine Fn.search W (pat_val _) (pat_val_ok _) (none_val _ f b) (by rw [txt_len]; lia) ?_
  repeat sizeOf_list_dec
  rw [if_neg Bool.false_ne_true]
  repeat sizeOf_list_dec
  exact ⟨rfl, rfl⟩
end
noncomputable abbrev Row := (Nat × Bool) × (Nat × Nat)
noncomputable def rowMV (r : Row) : MV := .tup [.str (nm r.1.1 r.1.2), .str (txt r.2.1 r.2.2)]
noncomputable def okRow (r : Row) : Prop := r.1.1 < 5 ∧ r.2.1 ≤ 1000 ∧ r.2.2 ≤ 1000
/-- a Headers, by its rows -/
structure Tbl (μ : Mu) (x l : Addr) (rows : List Row) : Prop where
  inst : ∃ d, μ x = some (.inst 244 d [("_headers", .ref l)])
  list : μ l = some (.list (rows.map rowMV))
  ok : ∀ r ∈ rows, okRow r
  len : rows.length ≤ 100
theorem Tbl.same {μ μ' : Mu} {x l : Addr} {rows : List Row} (T : Tbl μ x l rows) (h : Same μ μ') : Tbl μ' x l rows := ⟨by obtain ⟨d, e⟩ := T.inst; exact ⟨d, h _ _ e⟩, h _ _ T.list, T.ok, T.len⟩
noncomputable def getRow (rows : List Row) (i : Nat) : Option Row := rows.find? (fun r => r.1.1 == i)
noncomputable def valMV : Option Row → MV → MV
  | some r, _ => .str (txt r.2.1 r.2.2)
  | none, d => d
theorem look_nm {i j : Nat} {u : Bool} (hi : i < 5) (hj : j < 5) : (Txt.lower (nm i u) == nm j false) = (i == j) := by
  rw [nm_lower i hi]
  by_cases e : i = j
  · subst e; simp
  · have : (i == j) = false := beq_eq_false_iff_ne.mpr e
    rw [this]
    exact beq_eq_false_iff_ne.mpr fun q => e (nm_inj hi hj q).1

section
variable {w : World} {base : Heap} {prog : Program} {n : Nat} {μ : Mu}
theorem fieldIn_h (P : Params) : fieldIn (frag.heap_1 P) 244 "_headers" = true := by kernel_rfl
theorem methIn_conv (P : Params) : methIn (frag.heap_1 P) 244 "_convert_string_type" 143 = true := by kernel_rfl


/-- the arguments of get: with, without the third -/
theorem fn_get (W : WF w (frag.heap_1 w.params) base) {x l : Addr} {rows : List Row} {i : Nat} {u : Bool} (T : Tbl μ x l rows) (hi : i < 5) {dv : MV} {args : List MV} (ha : (args = [.ref x, .str (nm i u), dv]) ∨ (args = [.ref x, .str (nm i u)] ∧ dv = .none)) :
    FnC prog w base (n + 1 + 1) (.ref 191) args [] μ (fun v μ' => v = valMV (getRow rows i) dv ∧ μ = μ') := by
  refine FnC.def_ (σ₀ := [("self", .ref x), ("name", .str (nm i u)), ("default", dv)]) W ⟨_, _, _, rfl, ?hc, rfl, rfl, rfl, rfl, rfl, rfl, rfl⟩ ?ha ?hn (by kernel_rfl) ?_
  case hc => kernel_rfl
  case hn => (show List.Nodup [("self" : Str), "name", "default"]; decide +kernel)
  case ha =>
    rcases ha with rfl | ⟨rfl, rfl⟩
    · intro s vs kvs H i j
      rcases i with _ | ⟨i, k⟩
      rcases k with _ | ⟨k, l⟩
      rcases l with _ | ⟨l, m⟩
      cases m; cases j
      exact ⟨_, binds_K (T := 184) (W.kin.keeps H.stays) rfl rfl rfl rfl rfl, .cons i (.cons k (.cons l .nil))⟩
    · intro s vs kvs H i j
      rcases i with _ | ⟨i, k⟩
      rcases k with _ | ⟨k, l⟩
      cases l; cases j
      refine ⟨_, binds_K (T := 184) (W.kin.keeps H.stays) rfl rfl rfl rfl rfl, .cons i (.cons k (.cons .none .nil))⟩
  dsimp only
  obtain ⟨d, hx⟩ := T.inst
  repeat sizeOf_list_dec
  refine Ev.meth W ?_
  repeat sizeOf_list_dec
  refine MethP.intro (f := 143) (hx) (methIn_conv _) (by kernel_rfl) ?_
  repeat sizeOf_list_dec
  refine Ev.meth_b ?_
  repeat sizeOf_list_dec
  refine MethB.intro (BM.str PySem.F.slot_str_lower PySem.F.type_str_lower) ?_
  repeat sizeOf_list_dec
  refine Fn.lower (nm_fit i hi u).1 ?_
  rw [nm_lower i hi]
  repeat sizeOf_list_dec
  refine Fn.eqs (fn_conv_name W hi).toFn ?_
  repeat sizeOf_list_dec
  refine Ex.for_ ?_
  refine Itb.list ?_
  refine Ev.field W ?_
  repeat sizeOf_list_dec
  refine FieldP.intro (hx) (fieldIn_h _) look_here rfl ⟨_, _, rfl, T.list, ?_⟩
  refine Loop.ind rowMV (fun rest σ μ₁ => μ₁ = μ ∧ getRow rest i = getRow rows i ∧ (∀ r ∈ rest, okRow r) ∧ σ = ([("name", .str (nm i false)), ("default", dv)] : Sg)) ?_ ?_ rows _ _ ⟨rfl, rfl, T.ok, rfl⟩ _ (.cons (by array_get_dec) (.cons (by array_get_dec) .nil))
  · rintro σ μ₁ ⟨rfl, hg, hk, rfl⟩
    refine ⟨T.list, fun σ' hs => ?_⟩
    refine Exs.sub ?_ hs
    repeat sizeOf_list_dec
    exact ⟨by rw [← hg]; rfl, rfl⟩
  · rintro a r σ μ₁ ⟨rfl, hg, hk, rfl⟩
    obtain ⟨k1, k2, k3⟩ := hk a (.head _)
    refine ⟨T.list, Asg.tuple (Asgs.cons (Asg.name (by kernel_rfl) (Asgs.cons (Asg.name (by kernel_rfl) (Asgs.nil ?_)))))⟩
    repeat sizeOf_list_dec
    refine Ev.meth_b ?_
    repeat sizeOf_list_dec
    refine MethB.intro (BM.str PySem.F.slot_str_lower PySem.F.type_str_lower) ?_
    repeat sizeOf_list_dec
    refine Fn.lower (nm_fit _ k1 _).1 ?_
    repeat sizeOf_list_dec
    rw [look_nm k1 hi]
    by_cases q : a.1.1 = i
    · rw [if_pos (by simpa using q)]
      repeat sizeOf_list_dec
      have : getRow (a :: r) i = some a := by unfold getRow; rw [List.find?_cons, show (a.1.1 == i) = true by simpa using q]
      exact ⟨by rw [← hg, this]; rfl, rfl⟩
    · rw [if_neg (by simpa using q)]
      repeat sizeOf_list_dec
      refine ⟨_, .cons (by array_get_dec) (.cons (by array_get_dec) .nil), rfl, ?_, fun b hb => hk b (.tail _ hb), rfl⟩
      rw [← hg]; unfold getRow; rw [List.find?_cons, show (a.1.1 == i) = false by simpa using q]
end
noncomputable def delRow (rows : List Row) (i : Nat) : List Row := rows.filter (fun r => r.1.1 != i)
theorem delRow_cons (a : Row) (r : List Row) (i : Nat) : delRow (a :: r) i = if (a.1.1 != i) = true then a :: delRow r i else delRow r i := by unfold delRow; rw [List.filter_cons]
theorem delRow_mem {rows : List Row} {i : Nat} {r : Row} (h : r ∈ delRow rows i) : r ∈ rows := (List.mem_filter.mp h).1
theorem delRow_len (rows : List Row) (i : Nat) : (delRow rows i).length ≤ rows.length := List.length_filter_le ..
section
variable {w : World} {base : Heap} {prog : Program} {n : Nat} {μ : Mu}

theorem fn_del (W : WF w (frag.heap_1 w.params) base) {x l : Addr} {rows : List Row} {i : Nat} {u : Bool} (T : Tbl μ x l rows) (hi : i < 5) :
    FnC prog w base (n + 1 + 1) (.ref 162) [.ref x, .str (nm i u)] [] μ (fun v μ' => v = .none ∧ Tbl μ' x l (delRow rows i) ∧ SameBut l μ μ') := by
  refine FnC.def_ (σ₀ := [("self", .ref x), ("name", .str (nm i u))]) W ⟨_, _, _, rfl, ?hc, rfl, rfl, rfl, rfl, rfl, rfl, rfl⟩ (FnC.pos2 fun zz zz => rfl) ?hn (by kernel_rfl) ?_
  case hc => kernel_rfl
  case hn => (show List.Nodup [("self" : Str), "name"]; decide +kernel)
  dsimp only
  obtain ⟨d, hx⟩ := T.inst
  repeat sizeOf_list_dec
  refine Ev.meth W ?_
  repeat sizeOf_list_dec
  refine MethP.intro (f := 143) (hx) (methIn_conv _) (by kernel_rfl) ?_
  repeat sizeOf_list_dec
  refine Ev.meth_b ?_
  repeat sizeOf_list_dec
  refine MethB.intro (BM.str PySem.F.slot_str_lower PySem.F.type_str_lower) ?_
  repeat sizeOf_list_dec
  refine Fn.lower (nm_fit i hi u).1 ?_
  rw [nm_lower i hi]
  repeat sizeOf_list_dec
  refine Fn.eqs (fn_conv_name W hi).toFn ?_
  repeat sizeOf_list_dec
  refine Ex.assign1 ?_
  refine Ev.listcomp (by kernel_rfl) ?_
  refine Itb.list ?_
  refine Ev.field W ?_
  repeat sizeOf_list_dec
  refine FieldP.intro (hx) (fieldIn_h _) look_here rfl ⟨_, _, rfl, T.list, ?_⟩
  refine CLoop.ind rowMV (fun rest acc σ μ₁ => μ₁ = μ ∧ (∃ done : List Row, acc = done.map rowMV ∧ done.length + rest.length ≤ 100 ∧ done ++ delRow rest i = delRow rows i) ∧ (∀ r ∈ rest, okRow r) ∧ σ = ([("name", .str (nm i false))] : Sg)) ?_ ?_ rows _ _ _ ⟨rfl, ⟨[], rfl, by have := T.len; simpa using this, rfl⟩, T.ok, rfl⟩ _ (.cons (by kernel_rfl) .nil)
  · rintro acc σ μ₁ ⟨rfl, ⟨done, rfl, hz, hd⟩, hk, rfl⟩
    refine ⟨T.list, fun D hD => ?_⟩
    have hd : done = delRow rows i := by simpa [delRow] using hd
    subst hd
    have lD : l ≠ D := fun q => by have := T.list; rw [q, hD] at this; cases this
    have S := Same.new (o := .list ((delRow rows i).map rowMV)) hD
    have T' := T.same S
    refine Asg.slice_all (items' := (delRow rows i).map rowMV) ?_
    refine Ev.field W ?_
    repeat sizeOf_list_dec
    refine FieldP.intro (S _ _ hx) (fieldIn_h _) look_here rfl ⟨_, _, rfl, lD, T'.list, Mu.set_self, by have := T.len; rw [List.length_map]; lia, by have := T.len; have := delRow_len rows i; rw [List.length_map]; lia, ?_⟩
    repeat sizeOf_list_dec
    refine ⟨rfl, ⟨⟨d, ?_⟩, Mu.set_self, fun r hr => T.ok r (delRow_mem hr), Nat.le_trans (delRow_len _ _) T.len⟩, S.but.trans SameBut.set⟩
    rw [Mu.set_ne (fun q => by rw [q, T.list] at hx; cases hx)]
    exact S _ _ hx
  · rintro a r acc σ μ₁ ⟨rfl, ⟨done, rfl, hz, hd⟩, hk, rfl⟩
    obtain ⟨k1, k2, k3⟩ := hk a (.head _)
    rw [List.length_cons] at hz
    refine ⟨T.list, by rw [List.length_map]; lia, Asg.name (by kernel_rfl) ?_⟩
    show Tr _ _ _ _ _ _ _ _ _
    sizeOf_list_dec
    refine Ev.meth_b ?_
    repeat sizeOf_list_dec
    refine ItemT.tup (by decide) (by decide) rfl ?_
    refine MethB.intro (BM.str PySem.F.slot_str_lower PySem.F.type_str_lower) ?_
    repeat sizeOf_list_dec
    refine Fn.lower (nm_fit _ k1 _).1 ?_
    repeat sizeOf_list_dec
    have e : (Txt.lower (nm a.1.1 a.1.2) != nm i false) = (a.1.1 != i) := by show (!(_ == _)) = (!(_ == _)); rw [look_nm k1 hi]
    rw [e]
    rw [delRow_cons] at hd
    by_cases q : (a.1.1 != i) = true
    · rw [if_pos q] at hd ⊢
      repeat sizeOf_list_dec
      exact ⟨_, .cons (by array_get_dec) .nil, rfl, ⟨done ++ [a], by simp [rowMV], by simp; lia, by simpa using hd⟩, fun b hb => hk b (.tail _ hb), rfl⟩
    · rw [if_neg q] at hd ⊢
      exact ⟨_, .cons (by array_get_dec) .nil, rfl, ⟨done, rfl, by lia, hd⟩, fun b hb => hk b (.tail _ hb), rfl⟩
end
section
variable {w : World} {base : Heap} {prog : Program} {n : Nat} {μ : Mu}
theorem Tests.nil_ {sc : Scope} {σ : Sg} {post : Bool → Mu → Prop} (h : post true μ) : Tests prog w base n sc [] σ μ post := h
theorem Tests.one_ {sc : Scope} {σ : Sg} {c : Expr} {post : Bool → Mu → Prop} (h : Tr prog w base n sc c σ μ post) : Tests prog w base n sc [c] σ μ post := h
theorem methIn_get (P : Params) : methIn (frag.heap_1 P) 244 "get" 191 = true := by kernel_rfl
theorem dun_del (P : Params) : dunIn (frag.heap_1 P) 244 "__delitem__" 162 = true := by kernel_rfl
theorem noSeq_H (P : Params) : noSeq (frag.heap_1 P) 244 = true := by kernel_rfl
theorem valMV_plain (o : Option Row) : (valMV o .none).plainv = true := by cases o <;> rfl
theorem valMV_none (o : Option Row) : (valMV o .none).isNone = o.isNone := by cases o <;> rfl

theorem fn_set (W : WF w (frag.heap_1 w.params) base) {x l : Addr} {rows : List Row} {i f b : Nat} {u : Bool} (T : Tbl μ x l rows) (hi : i < 5) (hf : f ≤ 1000) (hb : b ≤ 1000) (hz : (delRow rows i).length + 1 ≤ 100) :
    FnC prog w base (n + 1 + 1 + 1) (.ref 157) [.ref x, .str (nm i u), .str (txt f b)] [] μ (fun v μ' => v = .none ∧ Tbl μ' x l (delRow rows i ++ [((i, u), (f, b))]) ∧ SameBut l μ μ') := by
  refine FnC.def_ (σ₀ := [("self", .ref x), ("name", .str (nm i u)), ("val", .str (txt f b))]) W ⟨_, _, _, rfl, ?hc, rfl, rfl, rfl, rfl, rfl, rfl, rfl⟩ (FnC.pos3 fun zz zz zz => rfl) ?hn (by kernel_rfl) ?_
  case hc => kernel_rfl
  case hn => (show List.Nodup [("self" : Str), "name", "val"]; decide +kernel)
  dsimp only
  obtain ⟨d, hx⟩ := T.inst
  sizeOf_list_dec
  refine Ex.del_inst W ?_
  repeat sizeOf_list_dec
  refine ⟨_, _, _, _, 162, rfl, hx, noSeq_H _, dun_del _, ?_⟩
  refine (fn_del W T hi).toFn.mono ?_
  rintro _ μ₁ ⟨rfl, T₁, S₁⟩
  obtain ⟨d₁, hx₁⟩ := T₁.inst
  repeat sizeOf_list_dec
  refine Ex.expr ?_
  refine Ev.meth_b ?_
  refine Ev.field W ?_
  repeat sizeOf_list_dec
  refine FieldP.intro (hx₁) (fieldIn_h _) look_here rfl ⟨_, BM.list T₁.list PySem.F.slot_list_append PySem.F.type_list_append, ?_⟩
  repeat sizeOf_list_dec
  refine Ev.meth W ?_
  repeat sizeOf_list_dec
  refine MethP.intro (f := 143) (hx₁) (methIn_conv _) (by kernel_rfl) ?_
  repeat sizeOf_list_dec
  refine Fn.eqs ((fn_conv_name W hi).le (Nat.le_succ _)).toFn ?_
  repeat sizeOf_list_dec
  refine Ev.meth W ?_
  repeat sizeOf_list_dec
  refine MethP.intro (f := 143) (hx₁) (methIn_conv _) (by kernel_rfl) ?_
  repeat sizeOf_list_dec
  refine Fn.eqs ((fn_conv_val W hf hb).le (Nat.le_succ _)).toFn ?_
  repeat sizeOf_list_dec
  refine ⟨by simp, ?_⟩
  repeat sizeOf_list_dec
  refine Fn.append T₁.list (by rw [List.length_map]; lia) ⟨rfl, ?_⟩
  repeat sizeOf_list_dec
  refine ⟨rfl, ⟨⟨d₁, ?_⟩, ?_, ?_, ?_⟩, S₁.trans SameBut.set⟩
  · rw [Mu.set_ne (fun q => by rw [q, T₁.list] at hx₁; cases hx₁)]; exact hx₁
  · rw [Mu.set_self, List.map_append]; rfl
  · intro r hr
    rcases List.mem_append.mp hr with hr | hr
    · exact T₁.ok r hr
    · cases List.mem_singleton.mp hr; exact ⟨hi, hf, hb⟩
  · rw [List.length_append]; exact hz

theorem fn_getitem (W : WF w (frag.heap_1 w.params) base) {x l : Addr} {rows : List Row} {i : Nat} {u : Bool} (T : Tbl μ x l rows) (hi : i < 5) :
    FnC prog w base (n + 1 + 1 + 1) (.ref 169) [.ref x, .str (nm i u)] [] μ (fun v μ' => v = valMV (getRow rows i) .none ∧ μ = μ') := by
  refine FnC.def_ (σ₀ := [("self", .ref x), ("name", .str (nm i u))]) W ⟨_, _, _, rfl, ?hc, rfl, rfl, rfl, rfl, rfl, rfl, rfl⟩ (FnC.pos2 fun zz zz => rfl) ?hn (by kernel_rfl) ?_
  case hc => kernel_rfl
  case hn => (show List.Nodup [("self" : Str), "name"]; decide +kernel)
  dsimp only
  obtain ⟨d, hx⟩ := T.inst
  repeat sizeOf_list_dec
  refine Ev.meth W ?_
  repeat sizeOf_list_dec
  refine MethP.intro (f := 191) (hx) (methIn_get _) (by kernel_rfl) ?_
  repeat sizeOf_list_dec
  refine Fn.eqs (fn_get W T hi (.inr ⟨rfl, rfl⟩)).toFn ?_
  exact ⟨rfl, rfl⟩
theorem fn_contains (W : WF w (frag.heap_1 w.params) base) {x l : Addr} {rows : List Row} {i : Nat} {u : Bool} (T : Tbl μ x l rows) (hi : i < 5) :
    FnC prog w base (n + 1 + 1 + 1) (.ref 176) [.ref x, .str (nm i u)] [] μ (fun v μ' => v = .bool (getRow rows i).isSome ∧ μ = μ') := by
  refine FnC.def_ (σ₀ := [("self", .ref x), ("name", .str (nm i u))]) W ⟨_, _, _, rfl, ?hc, rfl, rfl, rfl, rfl, rfl, rfl, rfl⟩ (FnC.pos2 fun zz zz => rfl) ?hn (by kernel_rfl) ?_
  case hc => kernel_rfl
  case hn => (show List.Nodup [("self" : Str), "name"]; decide +kernel)
  dsimp only
  obtain ⟨d, hx⟩ := T.inst
  repeat sizeOf_list_dec
  refine Ev.meth W ?_
  repeat sizeOf_list_dec
  refine MethP.intro (f := 191) (hx) (methIn_get _) (by kernel_rfl) ?_
  repeat sizeOf_list_dec
  refine Fn.eqs (fn_get W T hi (.inr ⟨rfl, rfl⟩)).toFn ?_
  repeat sizeOf_list_dec
  refine Op.isnot_none (valMV_plain _) ⟨?_, rfl⟩
  rw [valMV_none]; cases getRow rows i <;> rfl

theorem fn_keys (W : WF w (frag.heap_1 w.params) base) {x l : Addr} {rows : List Row} (T : Tbl μ x l rows) :
    FnC prog w base (n + 1) (.ref 196) [.ref x] [] μ (fun v μ' => ∃ D, v = .ref D ∧ μ D = none ∧ μ' = μ.set D (.list (rows.map fun r => .str (nm r.1.1 r.1.2)))) := by
  refine FnC.def_ (σ₀ := [("self", .ref x)]) W ⟨_, _, _, rfl, ?hc, rfl, rfl, rfl, rfl, rfl, rfl, rfl⟩ (FnC.pos1 fun zz => rfl) ?hn (by kernel_rfl) ?_
  case hc => kernel_rfl
  case hn => (show List.Nodup [("self" : Str)]; decide +kernel)
  dsimp only
  obtain ⟨d, hx⟩ := T.inst
  repeat sizeOf_list_dec
  refine Ev.listcomp (by kernel_rfl) ?_
  refine Itb.list ?_
  refine Ev.field W ?_
  repeat sizeOf_list_dec
  refine FieldP.intro (hx) (fieldIn_h _) look_here rfl ⟨_, _, rfl, T.list, ?_⟩
  refine CLoop.pure rowMV (fun d => d.map fun r => MV.str (nm r.1.1 r.1.2)) rows [] rfl ⟨T.list, fun D hD => ⟨D, rfl, hD, rfl⟩⟩ ?_ .nil
  intro a done rest hd
  have hl := T.len
  refine ⟨T.list, by rw [List.length_map]; rw [hd, List.length_append] at hl; lia, Asg.tuple (Asgs.cons (Asg.name (by kernel_rfl) (Asgs.cons (Asg.name (by kernel_rfl) (Asgs.nil ?_)))))⟩
  refine Tests.nil_ ?_
  repeat sizeOf_list_dec
  exact ⟨rfl, .nil, by dsimp only; rw [List.map_append]; rfl⟩
theorem fn_values (W : WF w (frag.heap_1 w.params) base) {x l : Addr} {rows : List Row} (T : Tbl μ x l rows) :
    FnC prog w base (n + 1) (.ref 201) [.ref x] [] μ (fun v μ' => ∃ D, v = .ref D ∧ μ D = none ∧ μ' = μ.set D (.list (rows.map fun r => .str (txt r.2.1 r.2.2)))) := by
  refine FnC.def_ (σ₀ := [("self", .ref x)]) W ⟨_, _, _, rfl, ?hc, rfl, rfl, rfl, rfl, rfl, rfl, rfl⟩ (FnC.pos1 fun zz => rfl) ?hn (by kernel_rfl) ?_
  case hc => kernel_rfl
  case hn => (show List.Nodup [("self" : Str)]; decide +kernel)
  dsimp only
  obtain ⟨d, hx⟩ := T.inst
  repeat sizeOf_list_dec
  refine Ev.listcomp (by kernel_rfl) ?_
  refine Itb.list ?_
  refine Ev.field W ?_
  repeat sizeOf_list_dec
  refine FieldP.intro (hx) (fieldIn_h _) look_here rfl ⟨_, _, rfl, T.list, ?_⟩
  refine CLoop.pure rowMV (fun d => d.map fun r => MV.str (txt r.2.1 r.2.2)) rows [] rfl ⟨T.list, fun D hD => ⟨D, rfl, hD, rfl⟩⟩ ?_ .nil
  intro a done rest hd
  have hl := T.len
  refine ⟨T.list, by rw [List.length_map]; rw [hd, List.length_append] at hl; lia, Asg.tuple (Asgs.cons (Asg.name (by kernel_rfl) (Asgs.cons (Asg.name (by kernel_rfl) (Asgs.nil ?_)))))⟩
  refine Tests.nil_ ?_
  repeat sizeOf_list_dec
  exact ⟨rfl, .nil, by dsimp only; rw [List.map_append]; rfl⟩
theorem fn_items (W : WF w (frag.heap_1 w.params) base) {x l : Addr} {rows : List Row} (T : Tbl μ x l rows) :
    FnC prog w base (n + 1) (.ref 208) [.ref x] [] μ (fun v μ' => ∃ D, v = .ref D ∧ μ D = none ∧ μ' = μ.set D (.list (rows.map rowMV))) := by
  refine FnC.def_ (σ₀ := [("self", .ref x)]) W ⟨_, _, _, rfl, ?hc, rfl, rfl, rfl, rfl, rfl, rfl, rfl⟩ (FnC.pos1 fun zz => rfl) ?hn (by kernel_rfl) ?_
  case hc => kernel_rfl
  case hn => (show List.Nodup [("self" : Str)]; decide +kernel)
  dsimp only
  obtain ⟨d, hx⟩ := T.inst
  sizeOf_list_dec
  sizeOf_list_dec
  refine Ev.slice ?_
  refine Ev.field W ?_
  repeat sizeOf_list_dec
  refine FieldP.intro (hx) (fieldIn_h _) look_here rfl ?_
  show SliceT _ _ _ _ _ _ _ _ _ _
  refine SliceT.list (LView.mu T.list) Takes.all (by have := T.len; rw [List.length_map]; lia) fun D hD => ?_
  exact ⟨D, rfl, hD, rfl⟩

theorem fn_setdefault (W : WF w (frag.heap_1 w.params) base) {x l : Addr} {rows : List Row} {i f b : Nat} {u : Bool} (T : Tbl μ x l rows) (hi : i < 5) (hf : f ≤ 1000) (hb : b ≤ 1000) (hz : rows.length + 1 ≤ 100) :
    FnC prog w base (n + 1 + 1 + 1) (.ref 234) [.ref x, .str (nm i u), .str (txt f b)] [] μ (fun v μ' => v = valMV (getRow rows i) (.str (txt f b)) ∧ Tbl μ' x l (match getRow rows i with | some _ => rows | none => rows ++ [((i, u), (f, b))]) ∧ SameBut l μ μ') := by
  refine FnC.def_ (σ₀ := [("self", .ref x), ("name", .str (nm i u)), ("value", .str (txt f b))]) W ⟨_, _, _, rfl, ?hc, rfl, rfl, rfl, rfl, rfl, rfl, rfl⟩ (FnC.pos3 fun zz zz zz => rfl) ?hn (by kernel_rfl) ?_
  case hc => kernel_rfl
  case hn => (show List.Nodup [("self" : Str), "name", "value"]; decide +kernel)
  dsimp only
  obtain ⟨d, hx⟩ := T.inst
  repeat sizeOf_list_dec
  refine Ev.meth W ?_
  repeat sizeOf_list_dec
  refine MethP.intro (f := 191) (hx) (methIn_get _) (by kernel_rfl) ?_
  repeat sizeOf_list_dec
  refine Fn.eqs (fn_get W T hi (.inr ⟨rfl, rfl⟩)).toFn ?_
  repeat sizeOf_list_dec
  refine Op.is_none (valMV_plain _) ?_
  rw [valMV_none]
  repeat sizeOf_list_dec
  cases hg : getRow rows i with
  | some r =>
    rw [if_neg (by simp)]
    repeat sizeOf_list_dec
    exact ⟨rfl, T, SameBut.refl⟩
  | none =>
    rw [if_pos (by simp)]
    sizeOf_list_dec
    refine Ex.expr ?_
    refine Ev.meth_b ?_
    refine Ev.field W ?_
    repeat sizeOf_list_dec
    refine FieldP.intro (hx) (fieldIn_h _) look_here rfl ⟨_, BM.list T.list PySem.F.slot_list_append PySem.F.type_list_append, ?_⟩
    repeat sizeOf_list_dec
    refine Ev.meth W ?_
    repeat sizeOf_list_dec
    refine MethP.intro (f := 143) (hx) (methIn_conv _) (by kernel_rfl) ?_
    repeat sizeOf_list_dec
    refine Fn.eqs ((fn_conv_name W hi).le (Nat.le_succ _)).toFn ?_
    repeat sizeOf_list_dec
    refine Ev.meth W ?_
    repeat sizeOf_list_dec
    refine MethP.intro (f := 143) (hx) (methIn_conv _) (by kernel_rfl) ?_
    repeat sizeOf_list_dec
    refine Fn.eqs ((fn_conv_val W hf hb).le (Nat.le_succ _)).toFn ?_
    repeat sizeOf_list_dec
    refine ⟨by simp, ?_⟩
    repeat sizeOf_list_dec
    refine Fn.append T.list (by rw [List.length_map]; lia) ⟨rfl, ?_⟩
    repeat sizeOf_list_dec
    refine ⟨rfl, ⟨⟨d, ?_⟩, ?_, ?_, ?_⟩, SameBut.set⟩
    · rw [Mu.set_ne (fun q => by rw [q, T.list] at hx; cases hx)]; exact hx
    · rw [Mu.set_self, List.map_append]; rfl
    · intro r hr
      rcases List.mem_append.mp hr with hr | hr
      · exact T.ok r hr
      · cases List.mem_singleton.mp hr; exact ⟨hi, hf, hb⟩
    · rw [List.length_append]; exact hz
end
section
variable {w : World} {base : Heap} {prog : Program} {n : Nat} {μ : Mu}
theorem setIn_h (P : Params) : setIn (frag.heap_1 P) 244 "_headers" = true := by kernel_rfl
theorem make_H (P : Params) : makeIn (frag.heap_1 P) 244 136 = true := by kernel_rfl
theorem keep_H (P : Params) : keepIn (frag.heap_1 P) (.ref 244) = true := by kernel_rfl

theorem fn_initH (W : WF w (frag.heap_1 w.params) base) {x d : Addr} (hx : μ x = some (.inst 244 d [])) :
    FnC prog w base (n + 1) (.ref 136) [.ref x] [] μ (fun v μ' => v = .none ∧ ∃ l, μ l = none ∧ μ' = (μ.set l (.list [])).set x (.inst 244 d [("_headers", .ref l)])) := by
  refine FnC.def_ (σ₀ := [("self", .ref x), ("headers", .none)]) W ⟨_, _, _, rfl, ?hc, rfl, rfl, rfl, rfl, rfl, rfl, rfl⟩ ?ha ?hn (by kernel_rfl) ?_
  case hc => kernel_rfl
  case hn => (show List.Nodup [("self" : Str), "headers"]; decide +kernel)
  case ha =>
    intro s vs kvs H i j
    rcases i with _ | ⟨i, k⟩
    cases k; cases j
    exact ⟨_, binds_K (T := 129) (W.kin.keeps H.stays) rfl rfl rfl rfl rfl, .cons i (.cons .none .nil)⟩
  dsimp only
  repeat sizeOf_list_dec
  rw [if_neg (by decide)]
  repeat sizeOf_list_dec
  refine ⟨by decide, fun l hl => ?_⟩
  repeat sizeOf_list_dec
  refine Ev.call_b W (by kernel_rfl) (b_none _ _ (by simp)) bb_type rfl ?_
  repeat sizeOf_list_dec
  refine Fn.type_list Mu.set_self ?_
  refine Ev.builtin W (by kernel_rfl) (b_none _ _ (by simp)) bb_list (fun zz => .raw _) ?_
  repeat sizeOf_list_dec
  rw [if_neg (by decide)]
  repeat sizeOf_list_dec
  refine Ex.assign1 ?_
  repeat sizeOf_list_dec
  refine Asg.attr W ?_
  repeat sizeOf_list_dec
  have S := Same.new (o := .list []) hl
  refine ⟨_, _, _, _, rfl, S _ _ hx, setIn_h _, by simp, ?_⟩
  have xl : x ≠ l := fun q => by rw [q, hl] at hx; cases hx
  repeat sizeOf_list_dec
  rw [if_pos rfl]
  sizeOf_list_dec
  refine Ex.for_ ?_
  refine Itb.list ?_
  repeat sizeOf_list_dec
  have hl2 : ((μ.set l (.list [])).set x (.inst 244 d (put "_headers" (.ref l) []))) l = some (.list []) := by rw [Mu.set_ne (Ne.symm xl), Mu.set_self]
  refine ⟨_, [], rfl, hl2, hl2, ?_⟩
  repeat sizeOf_list_dec
  exact ⟨rfl, l, hl, rfl⟩
theorem fn_Headers (W : WF w (frag.heap_1 w.params) base) :
    Fn prog w base (n + 1 + 1) (.ref 244) [] [] μ (fun v μ' => ∃ x l, v = .ref x ∧ Tbl μ' x l [] ∧ Same μ μ' ∧ μ x = none ∧ μ l = none) := by
  refine Fn.make W (make_H _) fun x d hx hd => ?_
  refine (fn_initH W (x := x) (d := d) Mu.set_self).mono ?_
  rintro _ _ ⟨rfl, l, hl, rfl⟩
  have xl : l ≠ x := fun q => by rw [q, Mu.set_self] at hl; cases hl
  rw [Mu.set_ne xl] at hl
  refine ⟨rfl, x, l, rfl, ⟨⟨d, Mu.set_self⟩, by rw [Mu.set_ne xl, Mu.set_self]; rfl, (fun r h => by cases h), by simp⟩, fun a o e => ?_, hx, hl⟩
  rw [Mu.set_ne (fun q => by rw [q, hx] at e; cases e), Mu.set_ne (fun q => by rw [q, hl] at e; cases e), Mu.set_ne (fun q => by rw [q, hx] at e; cases e)]
  exact e

theorem fn_text (W : WF w (frag.heap_1 w.params) base) {f b : Nat} (hf : f ≤ 1000) (hb : b ≤ 1000) :
    FnC prog w base (n + 1) (.ref 262) [.int f, .int b] [] μ (fun v μ' => v = .str (txt f b) ∧ μ = μ') := by
  refine FnC.def_ (σ₀ := [("front", .int f), ("back", .int b)]) W ⟨_, _, _, rfl, ?hc, rfl, rfl, rfl, rfl, rfl, rfl, rfl⟩ (FnC.pos2 fun zz zz => rfl) ?hn (by kernel_rfl) ?_
  case hc => kernel_rfl
  case hn => (show List.Nodup [("front" : Str), "back"]; decide +kernel)
  dsimp only
  have l1 : ((" " : Str)).length = 1 := by kernel_rfl
  have l2 : (("\t" : Str)).length = 1 := by kernel_rfl
  have l3 : ∀ k : Nat, (Txt.mul (" " : Str) (k : Int)).length = k := fun k => by rw [mul_sp, lst_len, sp_len]
  repeat sizeOf_list_dec
  refine Op.mul_str (by lia) (by lia) (by lia) ?_
  repeat sizeOf_list_dec
  refine Op.add_str (by rw [l3]; lia) ?_
  repeat sizeOf_list_dec
  refine Op.mul_str (by lia) (by lia) (by lia) ?_
  refine Op.add_str ?_ ⟨by rw [text_eq], rfl⟩
  rw [l3]
  have : (Txt.mul (" " : Str) (f : Int) ++ ("\t" : Str)).length = f + 1 := by rw [mul_sp, tab_lit, lst_app, lst_len, List.length_append, sp_len]; rfl
  rw [this]; lia
end
noncomputable abbrev Ask := (Nat × Bool) × Nat
noncomputable def askMV (a : Ask) : MV := .tup [.str (nm a.1.1 a.1.2), .int (a.2 : Int)]
noncomputable def okAsk (a : Ask) : Prop := a.1.1 < 5 ∧ a.2 ≤ 1
noncomputable def grow (s : Nat) (p : Nat × Nat) : Nat × Nat := (p.1 + 1 - s, p.2 + s)
noncomputable def strike1 (r : Row) : Option Row :=
  if r.2.1 - 1 + (r.2.2 - (1 - r.2.1)) = 0 then none else some (r.1, (r.2.1 - 1, r.2.2 - (1 - r.2.1)))
noncomputable def stepS (room : Nat) (st : List Row × Nat) (a : Ask) : List Row × Nat :=
  match getRow st.1 a.1.1 with
  | some r => (delRow st.1 a.1.1 ++ [(a.1, grow a.2 r.2)], st.2)
  | none => if st.1.length < room then (st.1 ++ [(a.1, grow a.2 (0, 0))], st.2) else (st.1.filterMap strike1, st.2 + 1)
noncomputable def struck (asked : List Ask) (room : Nat) : List Row × Nat := asked.foldl (stepS room) ([], 0)

/-- rows, after k askings -/
structure Rows (k : Nat) (rows : List Row) : Prop where
  nodup : (rows.map (·.1.1)).Nodup
  le : ∀ r ∈ rows, r.1.1 < 5 ∧ r.2.1 ≤ k ∧ r.2.2 ≤ k
  len : rows.length ≤ k
theorem getRow_some {rows : List Row} {i : Nat} {r : Row} (h : getRow rows i = some r) : r ∈ rows ∧ r.1.1 = i := ⟨List.mem_of_find?_eq_some h, by simpa using List.find?_some h⟩
theorem getRow_none {rows : List Row} {i : Nat} (h : getRow rows i = none) : ∀ r ∈ rows, r.1.1 ≠ i := fun r hr => by simpa using List.find?_eq_none.mp h r hr
theorem delRow_none {rows : List Row} {i : Nat} (h : ∀ r ∈ rows, r.1.1 ≠ i) : delRow rows i = rows := by
  unfold delRow; exact List.filter_eq_self.mpr fun r hr => by simpa using h r hr
theorem getRow_del {rows : List Row} {i : Nat} (x : List Row) : getRow (delRow rows i ++ x) i = getRow x i := by
  have : getRow (delRow rows i) i = none := List.find?_eq_none.mpr fun r hr => by
    have := (List.mem_filter.mp hr).2
    simpa using this
  unfold getRow at *
  rw [List.find?_append, this]; rfl
theorem delRow_lt {rows : List Row} {i : Nat} {r : Row} (h : getRow rows i = some r) : (delRow rows i).length + 1 ≤ rows.length := by
  obtain ⟨h1, h2⟩ := getRow_some h
  induction rows with
  | nil => cases h1
  | cons a s ih =>
    rw [delRow_cons]
    by_cases q : a.1.1 = i
    · rw [if_neg (by simpa using q)]; have := delRow_len s i; rw [List.length_cons]; lia
    · rw [if_pos (by simpa using q)]
      have hs : r ∈ s := by
        rcases List.mem_cons.mp h1 with e | h1
        · subst e; exact absurd h2 q
        · exact h1
      have hg : getRow s i = some r := by
        unfold getRow at h ⊢; rw [List.find?_cons] at h
        rw [show (a.1.1 == i) = false by simpa using q] at h; exact h
      have := ih hg hs
      rw [List.length_cons, List.length_cons]; lia
theorem one_less : ∀ f b : Nat, f - 1 + (b - (1 - f)) = f + b - 1
  | 0, b => by rw [Nat.zero_sub, Nat.zero_add, Nat.zero_add]
  | f + 1, b => by
    rw [Nat.sub_eq_zero_of_le (Nat.le_add_left 1 f), Nat.add_right_comm]; rfl
theorem strike1_key {r r' : Row} (h : strike1 r = some r') : r'.1 = r.1 ∧ r'.2.1 ≤ r.2.1 ∧ r'.2.2 ≤ r.2.2 := by
  unfold strike1 at h
  split at h
  · cases h
  · cases h; exact ⟨rfl, Nat.sub_le _ _, Nat.sub_le _ _⟩
theorem strike_mem {rows : List Row} {r' : Row} (h : r' ∈ rows.filterMap strike1) : ∃ r ∈ rows, strike1 r = some r' := List.mem_filterMap.mp h
theorem nodup_del {rows : List Row} {i : Nat} (h : (rows.map (·.1.1)).Nodup) : ((delRow rows i).map (·.1.1)).Nodup := h.sublist ((List.filter_sublist).map _)
theorem nodup_strike : ∀ {rows : List Row}, (rows.map (·.1.1)).Nodup → ((rows.filterMap strike1).map (·.1.1)).Nodup
  | [], _ => by simp
  | a :: r, h => by
    obtain ⟨h1, h2⟩ := List.nodup_cons.mp h
    rw [List.filterMap_cons]
    cases e : strike1 a with
    | none => exact nodup_strike h2
    | some a' =>
      refine List.nodup_cons.mpr ⟨fun m => h1 ?_, nodup_strike h2⟩
      obtain ⟨b, hb, eb⟩ := List.mem_map.mp m
      obtain ⟨c, hc, ec⟩ := strike_mem hb
      refine List.mem_map.mpr ⟨c, hc, ?_⟩
      show c.1.1 = a.1.1
      rw [← (strike1_key ec).1, ← (strike1_key e).1]; exact eb
theorem Rows.step {k room : Nat} {rows : List Row} {t : Nat} {a : Ask} (h : Rows k rows) (ha : okAsk a) : Rows (k + 1) (stepS room (rows, t) a).1 := by
  obtain ⟨ha1, ha2⟩ := ha
  unfold stepS
  dsimp only
  cases hg : getRow rows a.1.1 with
  | some r =>
    obtain ⟨hr, hri⟩ := getRow_some hg
    have hl := delRow_lt hg
    refine ⟨?_, fun r' hr' => ?_, ?_⟩
    · rw [List.map_append]
      refine List.nodup_append.mpr ⟨nodup_del h.nodup, by simp, fun x hx y hy e => ?_⟩
      obtain ⟨b, hb, eb⟩ := List.mem_map.mp hx
      have := (List.mem_filter.mp hb).2
      simp at hy
      rw [e, hy] at eb
      simp [eb] at this
    · rcases List.mem_append.mp hr' with hr' | hr'
      · obtain ⟨q1, q2, q3⟩ := h.le r' (delRow_mem hr'); exact ⟨q1, by lia, by lia⟩
      · cases List.mem_singleton.mp hr'
        obtain ⟨q1, q2, q3⟩ := h.le r hr
        unfold grow
        exact ⟨ha1, by show r.2.1 + 1 - a.2 ≤ _; lia, by show r.2.2 + a.2 ≤ _; lia⟩
    · rw [List.length_append]; have := h.len; simp; lia
  | none =>
    have hn := getRow_none hg
    by_cases q : rows.length < room
    · simp only [q, if_true]
      refine ⟨?_, fun r' hr' => ?_, ?_⟩
      · rw [List.map_append]
        refine List.nodup_append.mpr ⟨h.nodup, by simp, fun x hx y hy e => ?_⟩
        obtain ⟨b, hb, eb⟩ := List.mem_map.mp hx
        simp at hy
        exact hn b hb (by rw [eb, e, hy])
      · rcases List.mem_append.mp hr' with hr' | hr'
        · obtain ⟨q1, q2, q3⟩ := h.le r' hr'; exact ⟨q1, by lia, by lia⟩
        · cases List.mem_singleton.mp hr'
          unfold grow
          exact ⟨ha1, by show 0 + 1 - a.2 ≤ _; lia, by show 0 + a.2 ≤ _; lia⟩
      · rw [List.length_append]; have := h.len; simp; lia
    · simp only [q, if_false]
      refine ⟨nodup_strike h.nodup, fun r' hr' => ?_, ?_⟩
      · obtain ⟨c, hc, ec⟩ := strike_mem hr'
        obtain ⟨q1, q2, q3⟩ := h.le c hc
        obtain ⟨e1, e2, e3⟩ := strike1_key ec
        rw [e1]; exact ⟨q1, by lia, by lia⟩
      · have := List.length_filterMap_le strike1 rows; have := h.len; lia
theorem stepS_snd {room : Nat} {rows : List Row} {t : Nat} {a : Ask} : (stepS room (rows, t) a).2 ≤ t + 1 := by
  unfold stepS
  dsimp only
  split
  · exact Nat.le_succ _
  · split
    · exact Nat.le_succ _
    · exact Nat.le_refl _
section
variable {w : World} {base : Heap} {prog : Program} {n : Nat} {μ : Mu}
theorem methIn_keys (P : Params) : methIn (frag.heap_1 P) 244 "keys" 196 = true := by kernel_rfl
theorem methIn_values (P : Params) : methIn (frag.heap_1 P) 244 "values" 201 = true := by kernel_rfl
theorem methIn_items (P : Params) : methIn (frag.heap_1 P) 244 "items" 208 = true := by kernel_rfl
theorem methIn_setd (P : Params) : methIn (frag.heap_1 P) 244 "setdefault" 234 = true := by kernel_rfl
theorem dun_set (P : Params) : dunIn (frag.heap_1 P) 244 "__setitem__" 157 = true := by kernel_rfl
theorem sub_H (P : Params) : Mine.subIn (frag.heap_1 P) 244 169 = true := by kernel_rfl
theorem dun_cont (P : Params) : dunIn (frag.heap_1 P) 244 "__contains__" 176 = true := by kernel_rfl
theorem k_strip (P : Params) : keepIn (frag.heap_1 P) (.ref 45) = true := by kernel_rfl
theorem k_text (P : Params) : keepIn (frag.heap_1 P) (.ref 262) = true := by kernel_rfl
theorem k_grown (P : Params) : keepIn (frag.heap_1 P) (.ref 269) = true := by kernel_rfl
theorem Same.via {l : Addr} {μ μ₁ μ₂ : Mu} (x : Same μ μ₁) (y : SameBut l μ₁ μ₂) (h : μ l = none) : Same μ μ₂ := fun a o e => y a o (fun q => by rw [q, h] at e; cases e) (x a o e)
theorem txt_eq_tab (f b : Nat) : (txt f b == ("\t" : Str)) = decide (f + b = 0) := by
  rw [tab_txt]
  by_cases h : f + b = 0
  · have e1 : f = 0 := by lia
    have e2 : b = 0 := by lia
    subst e1 e2; simp
  · rw [decide_eq_false h]
    exact beq_eq_false_iff_ne.mpr fun q => h (by obtain ⟨a, b⟩ := txt_inj q; lia)
theorem Rows.okRow {k : Nat} {rows : List Row} (h : Rows k rows) (hk : k ≤ 50) : ∀ r ∈ rows, Mine.okRow r := fun r hr => by
  obtain ⟨a, b, c⟩ := h.le r hr; exact ⟨a, by lia, by lia⟩

noncomputable abbrev sgStruck (room : Nat) (x : Addr) (t : Nat) : Sg := [("room", .int (room : Int)), ("table", .ref x), ("times", .int (t : Int))]
noncomputable abbrev invStruck (asked : List Ask) (room : Nat) (x l : Addr) (μ : Mu) : List Ask → Sg → Mu → Prop := fun rest σ μ₁ => ∃ (rows : List Row) (t k : Nat), Rows k rows ∧ t ≤ k ∧ k + rest.length = asked.length ∧ rest.foldl (stepS room) (rows, t) = struck asked room ∧ Tbl μ₁ x l rows ∧ Same μ μ₁ ∧ (∀ a ∈ rest, okAsk a) ∧ σ = sgStruck room x t
noncomputable abbrev postStruck (asked : List Ask) (room : Nat) (μ : Mu) : MV → Mu → Prop := fun v μ' => ∃ x l, v = .tup [.ref x, .int ((struck asked room).2 : Nat)] ∧ Tbl μ' x l (struck asked room).1 ∧ Same μ μ' ∧ μ x = none ∧ μ l = none
noncomputable abbrev invStrike (rows : List Row) (k : Nat) (x l D₂ : Addr) (room t : Nat) (μ : Mu) : List Row → Sg → Mu → Prop := fun rest' σ μ₂ => ∃ X : List Row, Tbl μ₂ x l (rest' ++ X) ∧ X ++ rest'.filterMap strike1 = rows.filterMap strike1 ∧ ((rest' ++ X).map (·.1.1)).Nodup ∧ (∀ r ∈ rest', r.1.1 < 5 ∧ r.2.1 ≤ k ∧ r.2.2 ≤ k) ∧ rest'.length + X.length ≤ k ∧ μ₂ D₂ = some (.list (rows.map fun r => .str (nm r.1.1 r.1.2))) ∧ Same μ μ₂ ∧ σ = sgStruck room x (t + 1)
theorem fn_struck (W : WF w (frag.heap_1 w.params) base) {la : Addr} {asked : List Ask} {room : Nat} (hla : μ la = some (.list (asked.map askMV))) (hk : asked.length ≤ 50) (ha : ∀ a ∈ asked, okAsk a) :
    FnC prog w base (n + 1 + 1 + 1 + 1 + 1) (.ref 276) [.ref la, .int room] [] μ (postStruck asked room μ) := by
  refine FnC.def_ (σ₀ := [("asked", .ref la), ("room", .int room)]) W ⟨_, _, _, rfl, ?hc, rfl, rfl, rfl, rfl, rfl, rfl, rfl⟩ (FnC.pos2 fun zz zz => rfl) ?hn (by kernel_rfl) ?_
  case hc => kernel_rfl
  case hn => (show List.Nodup [("asked" : Str), "room"]; decide +kernel)
  dsimp only
  repeat sizeOf_list_dec
  refine Ev.call_name W (by kernel_rfl) (g_Headers _) (keep_H _) ?_
  repeat sizeOf_list_dec
  refine (fn_Headers W).mono ?_
  rintro _ μ₀ ⟨x, l, rfl, T₀, S₀, nx, nl⟩
  repeat sizeOf_list_dec
  refine Ex.for_ ?_
  refine Itb.list ?_
  repeat sizeOf_list_dec
  refine ListP.intro (S₀ _ _ hla) ?_
  refine Loop.ind askMV (invStruck asked room x l μ)
    ?_ ?_ asked _ _ ⟨[], 0, 0, ⟨by simp, (fun r h => by cases h), by simp⟩, Nat.le_refl _, by simp, rfl, T₀, S₀, ha, rfl⟩ _ (.cons (by array_get_dec) (.cons (by array_get_dec) (.cons (look_eq (by array_get_dec) (int_eq (a := 0) (by rfl))) .nil)))
  · rintro σ μ₁ ⟨rows, t, k, hr, ht, hkk, hf, T, S, _, rfl⟩
    refine ⟨S _ _ hla, fun σ' hs => ?_⟩
    refine Exs.sub ?_ hs
    repeat sizeOf_list_dec
    refine ⟨by simp, ?_⟩
    have e : (rows, t) = struck asked room := hf
    dsimp only [seqP, fnP, postStruck]; rw [← e]
    exact ⟨x, l, rfl, T, S, nx, nl⟩
  · rintro a rest σ μ₁ ⟨rows, t, k, hr, ht, hkk, hf, T, S, hok, rfl⟩
    obtain ⟨ai, as⟩ := hok a (.head _)
    have hok' : ∀ b ∈ rest, okAsk b := fun b hb => hok b (.tail _ hb)
    rw [List.length_cons] at hkk
    have hstep := hr.step (room := room) (t := t) (hok a (.head _))
    have hfold : rest.foldl (stepS room) (stepS room (rows, t) a) = struck asked room := hf
    have hlen := hr.len
    obtain ⟨d, hx⟩ := T.inst
    refine ⟨S _ _ hla, Asg.tuple (Asgs.cons (Asg.name (by kernel_rfl) (Asgs.cons (Asg.name (by kernel_rfl) (Asgs.nil ?_)))))⟩
    repeat sizeOf_list_dec
    refine Ev.meth W ?_
    repeat sizeOf_list_dec
    refine MethP.intro (f := 191) (hx) (methIn_get _) (by kernel_rfl) ?_
    repeat sizeOf_list_dec
    refine Fn.eqs ((fn_get (n := n) W T ai (.inr ⟨rfl, rfl⟩)).le (by lia)).toFn ?_
    repeat sizeOf_list_dec
    refine Op.isnot_none (valMV_plain _) ?_
    rw [valMV_none]
    repeat sizeOf_list_dec
    cases hg : getRow rows a.1.1 with
    | some r =>
      obtain ⟨hrm, hri⟩ := getRow_some hg
      obtain ⟨q1, q2, q3⟩ := hr.le r hrm
      have hdl := delRow_lt hg
      rw [if_pos (by simp)]
      sizeOf_list_dec
      refine Ex.assign1 ?_
      refine Ev.call_name W (by kernel_rfl) (g_grown _) (k_grown _) ?_
      repeat sizeOf_list_dec
      refine Fn.eqs ((fn_grown (n := n) W (f := r.2.1) (b := r.2.2) as (by lia) (by lia)).le (by lia)).toFn ?_
      refine Asg.item ?_
      repeat sizeOf_list_dec
      refine SetT.inst W hx (noSeq_H _) (dun_set _) ?_
      refine ((fn_set (n := n) W T ai (f := r.2.1 + 1 - a.2) (b := r.2.2 + a.2) (by lia) (by lia) (by lia)).le (by lia)).toFn.mono ?_
      rintro _ μ₂ ⟨_, T₂, S₂⟩
      obtain ⟨d₂, hx₂⟩ := T₂.inst
      have hg₂ : getRow (delRow rows a.1.1 ++ [((a.1.1, a.1.2), (r.2.1 + 1 - a.2, r.2.2 + a.2))]) a.1.1 = some ((a.1.1, a.1.2), (r.2.1 + 1 - a.2, r.2.2 + a.2)) := by
        rw [getRow_del]; unfold getRow; simp
      repeat sizeOf_list_dec
      refine Ev.meth W ?_
      repeat sizeOf_list_dec
      refine MethP.intro (f := 234) (hx₂) (methIn_setd _) (by kernel_rfl) ?_
      repeat sizeOf_list_dec
      rw [tab_txt]
      refine ((fn_setdefault (n := n) W T₂ ai (f := 0) (b := 0) (by lia) (by lia) (by rw [List.length_append]; simp; lia)).le (by lia)).toFn.mono ?_
      rw [hg₂]
      rintro _ μ₃ ⟨rfl, T₃, S₃⟩
      refine Ev.call_name W (by kernel_rfl) (g_grown _) (k_grown _) ?_
      repeat sizeOf_list_dec
      refine Fn.eqs ((fn_grown (n := n) W (f := r.2.1) (b := r.2.2) as (by lia) (by lia)).le (by lia)).toFn ?_
      refine Op.ne_str ?_
      repeat sizeOf_list_dec
      rw [if_neg (by simp)]
      repeat sizeOf_list_dec
      have e : stepS room (rows, t) a = (delRow rows a.1.1 ++ [((a.1.1, a.1.2), (r.2.1 + 1 - a.2, r.2.2 + a.2))], t) := by unfold stepS; dsimp only; rw [hg]; rfl
      rw [e] at hstep hfold
      exact ⟨sgStruck room x t, .cons (by array_get_dec) (.cons (by array_get_dec) (.cons (by array_get_dec) .nil)), _, t, k + 1, hstep, by lia, by lia, hfold, T₃, (S.via S₂ nl).via S₃ nl, hok', rfl⟩
    | none =>
      rw [if_neg (by simp)]
      repeat sizeOf_list_dec
      refine Ev.call_b W (by kernel_rfl) (b_none _ _ (by simp)) bb_len rfl ?_
      sizeOf_list_dec
      refine Ev.meth W ?_
      repeat sizeOf_list_dec
      refine MethP.intro (f := 196) (hx) (methIn_keys _) (by kernel_rfl) ?_
      repeat sizeOf_list_dec
      refine Fn.news ((fn_keys (n := n) W T).le (by lia)).toFn fun D hD => ?_
      have SD := Same.new (o := .list (rows.map fun r => .str (nm r.1.1 r.1.2))) hD
      have TD := T.same SD
      repeat sizeOf_list_dec
      refine Fn.len_list Mu.set_self (by rw [List.length_map]; lia) ?_
      repeat sizeOf_list_dec
      rw [List.length_map]
      by_cases q : rows.length < room
      · rw [if_pos (by simpa using q)]
        repeat sizeOf_list_dec
        refine Ev.meth W ?_
        repeat sizeOf_list_dec
        refine MethP.intro (f := 234) (SD _ _ hx) (methIn_setd _) (by kernel_rfl) ?_
        repeat sizeOf_list_dec
        refine Ev.call_name W (by kernel_rfl) (g_grown _) (k_grown _) ?_
        repeat sizeOf_list_dec
        rw [tab_txt]
        refine Fn.eqs ((fn_grown (n := n) W (f := 0) (b := 0) as (by lia) (by lia)).le (by lia)).toFn ?_
        repeat sizeOf_list_dec
        refine ((fn_setdefault (n := n) W TD ai (f := 0 + 1 - a.2) (b := 0 + a.2) (by lia) (by lia) (by lia)).le (by lia)).toFn.mono ?_
        rw [hg]
        rintro _ μ₃ ⟨rfl, T₃, S₃⟩
        refine Ev.call_name W (by kernel_rfl) (g_grown _) (k_grown _) ?_
        repeat sizeOf_list_dec
        refine Fn.eqs ((fn_grown (n := n) W (f := 0) (b := 0) as (by lia) (by lia)).le (by lia)).toFn ?_
        refine Op.ne_str ?_
        repeat sizeOf_list_dec
        rw [if_neg (by simp)]
        repeat sizeOf_list_dec
        have e : stepS room (rows, t) a = (rows ++ [((a.1.1, a.1.2), (0 + 1 - a.2, 0 + a.2))], t) := by unfold stepS; dsimp only; rw [hg, if_pos q]; rfl
        rw [e] at hstep hfold
        exact ⟨sgStruck room x t, .cons (by array_get_dec) (.cons (by array_get_dec) (.cons (by array_get_dec) .nil)), _, t, k + 1, hstep, by lia, by lia, hfold, T₃, (S.trans SD).via S₃ nl, hok', rfl⟩
      · rw [if_neg (by simpa using q)]
        repeat sizeOf_list_dec
        refine Ex.for_ ?_
        refine Itb.list ?_
        refine Ev.meth W ?_
        repeat sizeOf_list_dec
        refine MethP.intro (f := 196) (SD _ _ hx) (methIn_keys _) (by kernel_rfl) ?_
        repeat sizeOf_list_dec
        refine Fn.news ((fn_keys (n := n) W TD).le (by lia)).toFn fun D₂ hD₂ => ?_
        have SD₂ := Same.new (o := .list (rows.map fun r => .str (nm r.1.1 r.1.2))) hD₂
        have TD₂ := TD.same SD₂
        have nD₂ : D₂ ≠ l := fun q => by have := TD.list; rw [← q, hD₂] at this; cases this
        refine ListP.intro (Mu.set_self) ?_
        refine Loop.ind (fun r : Row => .str (nm r.1.1 r.1.2)) (invStrike rows k x l D₂ room t μ) ?_ ?_ rows _ _ ⟨[], by rw [List.append_nil]; exact TD₂, rfl, by rw [List.append_nil]; exact hr.nodup, hr.le, by simpa using hlen, Mu.set_self, (S.trans SD).trans SD₂, rfl⟩ _
            (.cons (by array_get_dec) (.cons (by array_get_dec) (.cons (look_eq (by array_get_dec) (int_eq (by lia))) .nil)))
        · rintro σ μ₂ ⟨X, TX, hX, hnd, _, hXl, hc, S₂, rfl⟩
          refine ⟨hc, fun σ' hs => ?_⟩
          repeat sizeOf_list_dec
          have hX : X = rows.filterMap strike1 := by simpa using hX
          subst hX
          have e : stepS room (rows, t) a = (rows.filterMap strike1, t + 1) := by unfold stepS; dsimp only; rw [hg, if_neg q]
          rw [e] at hstep hfold
          exact ⟨sgStruck room x (t + 1), hs, _, t + 1, k + 1, hstep, by lia, by lia, hfold, TX, S₂, hok', rfl⟩
        · rintro b rest' σ μ₂ ⟨X, TX, hX, hnd, hle, hXl, hc, S₂, rfl⟩
          obtain ⟨b1, b2, b3⟩ := hle b (.head _)
          rw [List.length_cons] at hXl
          rw [List.cons_append] at TX hnd
          obtain ⟨dX, hxX⟩ := TX.inst
          have hgb : getRow (b :: (rest' ++ X)) b.1.1 = some b := by unfold getRow; simp
          obtain ⟨hn1, hn2⟩ := List.nodup_cons.mp hnd
          have hdel : delRow (b :: (rest' ++ X)) b.1.1 = rest' ++ X := by
            rw [delRow_cons, if_neg (by simp)]
            exact delRow_none fun r hr e => hn1 (List.mem_map.mpr ⟨r, hr, e⟩)
          refine ⟨hc, Asg.name (by kernel_rfl) ?_⟩
          sizeOf_list_dec
          sizeOf_list_dec
          refine Ev.call_name W (by kernel_rfl) (g_strip _) (k_strip _) ?_
          sizeOf_list_dec
          refine Ev.item_inst W ?_
          repeat sizeOf_list_dec
          refine ⟨_, _, _, _, 169, rfl, hxX, sub_H _, ?_⟩
          refine ((fn_getitem (n := n) W TX b1).le (by lia)).toFn.mono ?_
          rw [hgb]
          rintro _ _ ⟨rfl, rfl⟩
          repeat sizeOf_list_dec
          refine Fn.eqs ((fn_strip (n := n) W (f := b.2.1) (b := b.2.2) (k := 1) (by lia) (by lia) (by lia)).le (by lia)).toFn ?_
          repeat sizeOf_list_dec
          rw [txt_eq_tab]
          rw [List.filterMap_cons] at hX
          by_cases q0 : b.2.1 - 1 + (b.2.2 - (1 - b.2.1)) = 0
          · rw [if_pos (by simpa using q0)]
            have es : strike1 b = none := by unfold strike1; rw [if_pos q0]
            rw [es] at hX
            sizeOf_list_dec
            refine Ex.del_inst W ?_
            repeat sizeOf_list_dec
            refine ⟨_, _, _, _, 162, rfl, hxX, noSeq_H _, dun_del _, ?_⟩
            refine ((fn_del (n := n) W TX b1).le (by lia)).toFn.mono ?_
            rw [hdel]
            rintro _ μ₃ ⟨_, T₃, S₃⟩
            repeat sizeOf_list_dec
            exact ⟨sgStruck room x (t + 1), .cons (by array_get_dec) (.cons (by array_get_dec) (.cons (by array_get_dec) .nil)), X, T₃, hX, hn2, fun r hr => hle r (.tail _ hr), by lia, S₃ _ _ nD₂ hc, S₂.via S₃ nl, rfl⟩
          · rw [if_neg (by simpa using q0)]
            have es : strike1 b = some (b.1, (b.2.1 - 1, b.2.2 - (1 - b.2.1))) := by unfold strike1; rw [if_neg q0]
            rw [es] at hX
            sizeOf_list_dec
            refine Ex.assign1 ?_
            repeat sizeOf_list_dec
            refine Asg.item ?_
            repeat sizeOf_list_dec
            refine SetT.inst W hxX (noSeq_H _) (dun_set _) ?_
            refine ((fn_set (n := n) W TX b1 (f := b.2.1 - 1) (b := b.2.2 - (1 - b.2.1)) (by lia) (by lia) (by rw [hdel, List.length_append]; lia)).le (by lia)).toFn.mono ?_
            rw [hdel]
            rintro _ μ₃ ⟨_, T₃, S₃⟩
            repeat sizeOf_list_dec
            refine ⟨sgStruck room x (t + 1), .cons (by array_get_dec) (.cons (by array_get_dec) (.cons (by array_get_dec) .nil)), X ++ [(b.1, (b.2.1 - 1, b.2.2 - (1 - b.2.1)))], by rw [← List.append_assoc]; exact T₃, by rw [List.append_assoc]; exact hX, ?_, fun r hr => hle r (.tail _ hr), by rw [List.length_append]; simp; lia, S₃ _ _ nD₂ hc, S₂.via S₃ nl, rfl⟩
            rw [← List.append_assoc, List.map_append]
            refine List.nodup_append.mpr ⟨hn2, by simp, fun y hy z hz e => ?_⟩
            simp at hz
            exact hn1 (by show b.1.1 ∈ _; rw [← hz, ← e]; exact hy)
end
structure WS where
  count : List Nat
  b : Nat
  n : Nat
  nt : Nat
noncomputable def bump (count : List Nat) (b : Nat) : List Nat :=
  let c := if count.length ≤ b then count ++ List.replicate (b - count.length + 1) 0 else count
  c.set b (c.getD b 0 + 1)
noncomputable def WS.step (s : WS) (c : Nat) : WS := if c = 32 then ⟨s.count, s.b + 1, s.n + 1, s.nt⟩ else ⟨bump s.count s.b, 0, s.n + 1, s.nt + 1⟩
noncomputable def ws (cs : List Nat) : WS := cs.foldl WS.step ⟨[], 0, 0, 0⟩
noncomputable def intsMV (l : List Nat) : List MV := l.map fun (c : Nat) => .int (c : Int)
noncomputable def wsF (cs : List Nat) : Sg := [("raw", .str (lst cs)), ("n", .int (ws cs).n), ("nt", .int (ws cs).nt), ("norm", .tup [.tup (intsMV (ws cs).count), .int (ws cs).b]), ("is_simple", .bool (decide ((((ws cs).count.length : Nat) : Int) ≤ 1)))]
theorem bump_len (count : List Nat) (b : Nat) : (bump count b).length = max count.length (b + 1) := by
  unfold bump; dsimp only; split
  · rw [List.length_set, List.length_append, List.length_replicate]; lia
  · rw [List.length_set]; lia

theorem ws_snoc (d : List Nat) (c : Nat) : ws (d ++ [c]) = (ws d).step c := by unfold ws; rw [List.foldl_append]; rfl
theorem ws_bound : ∀ d : List Nat, (ws d).b ≤ d.length ∧ (ws d).n = d.length ∧ (ws d).nt ≤ d.length ∧ (ws d).count.length ≤ d.length := by
  intro d
  have key : ∀ (l : List Nat) (s : WS) (k : Nat), s.b ≤ k ∧ s.n = k ∧ s.nt ≤ k ∧ s.count.length ≤ k → (l.foldl WS.step s).b ≤ k + l.length ∧ (l.foldl WS.step s).n = k + l.length ∧ (l.foldl WS.step s).nt ≤ k + l.length ∧ (l.foldl WS.step s).count.length ≤ k + l.length := by
    intro l
    induction l with
    | nil => intro s k h; exact h
    | cons c r ih =>
      intro s k ⟨h1, h2, h3, h4⟩
      have := ih (s.step c) (k + 1) (by
        unfold WS.step
        split
        · exact ⟨by dsimp only; lia, by dsimp only; lia, by dsimp only; lia, by dsimp only; lia⟩
        · refine ⟨by dsimp only; lia, by dsimp only; lia, by dsimp only; lia, ?_⟩
          dsimp only; rw [bump_len]; lia)
      rw [List.length_cons, List.foldl_cons, show k + (r.length + 1) = k + 1 + r.length by lia]
      exact this
  have := key d ⟨[], 0, 0, 0⟩ 0 ⟨Nat.le_refl _, rfl, Nat.le_refl _, Nat.le_refl _⟩
  simpa [ws] using this
theorem signs_lst (cs : List Nat) : signs (lst cs) = cs.map (fun c => .str (lst [c])) := by unfold signs lst; simp
theorem intsMV_len (l : List Nat) : (intsMV l).length = l.length := List.length_map ..
theorem intsMV_at (l : List Nat) (i : Nat) (h : i < l.length) : (intsMV l)[i]? = some (.int ((l.getD i 0 : Nat) : Int)) := by
  unfold intsMV; rw [List.getElem?_map, List.getElem?_eq_getElem h]
  simp [List.getD_eq_getElem?_getD, List.getElem?_eq_getElem h]
theorem intsMV_set (l : List Nat) (i v : Nat) : (intsMV l).set i (.int (v : Int)) = intsMV (l.set i v) := by unfold intsMV; rw [List.map_set]
noncomputable abbrev sgW (x L : Addr) (s : WS) : Sg := [("self", .ref x), ("S", .str " "), ("T", .str "\t"), ("count", .ref L), ("b", .int (s.b : Int)), ("n", .int (s.n : Int)), ("nt", .int (s.nt : Int))]

section
variable {w : World} {base : Heap} {prog : Program} {n : Nat} {μ : Mu}
theorem cls_S (P : Params) : ∃ t, findCls (frag.heap_1 P) (.ref 107) (.type "type") "S" = some (.val (.str " " t)) := ⟨_, rfl⟩
theorem cls_T (P : Params) : ∃ t, findCls (frag.heap_1 P) (.ref 107) (.type "type") "T" = some (.val (.str "\t" t)) := ⟨_, rfl⟩
theorem reads_W (P : Params) : readsIn (frag.heap_1 P) 107 (.type "type") = true := by kernel_rfl
theorem setIn_W (P : Params) : ∀ a ∈ [("raw" : Str), "n", "nt", "norm", "is_simple"], setIn (frag.heap_1 P) 107 a = true := by
  intro a h
  simp only [List.mem_cons, List.not_mem_nil, or_false] at h
  rcases h with rfl | rfl | rfl | rfl | rfl <;> kernel_rfl
theorem fieldIn_W (P : Params) : ∀ a ∈ [("raw" : Str), "n", "nt", "norm", "is_simple"], fieldIn (frag.heap_1 P) 107 a = true := by
  intro a h
  simp only [List.mem_cons, List.not_mem_nil, or_false] at h
  rcases h with rfl | rfl | rfl | rfl | rfl <;> kernel_rfl

noncomputable abbrev invW (cs : List Nat) (x d : Addr) (μ : Mu) : List Nat → Sg → Mu → Prop := fun rest σ μ₁ => ∃ (done : List Nat) (L : Addr), cs = done ++ rest ∧ σ = sgW x L (ws done) ∧ μ₁ L = some (.list (intsMV (ws done).count)) ∧ (μ.set x (.inst 107 d (put "raw" (.str (lst cs)) []))) L = none ∧ Same (μ.set x (.inst 107 d (put "raw" (.str (lst cs)) []))) μ₁
theorem fn_initW (W : WF w (frag.heap_1 w.params) base) {x d : Addr} {cs : List Nat} (hx : μ x = some (.inst 107 d [])) (hcs : ∀ c ∈ cs, c = 32 ∨ c = 9) (hz : cs.length ≤ 500) :
    FnC prog w base (n + 1) (.ref 62) [.ref x, .str (lst cs)] [] μ (fun v μ' => v = .none ∧ μ' x = some (.inst 107 d (wsF cs)) ∧ SameBut x μ μ') := by
  refine FnC.def_ (σ₀ := [("self", .ref x), ("ws", .str (lst cs))]) W ⟨_, _, _, rfl, ?hc, rfl, rfl, rfl, rfl, rfl, rfl, rfl⟩ (FnC.pos2 fun zz zz => rfl) ?hn (by kernel_rfl) ?_
  case hc => kernel_rfl
  case hn => (show List.Nodup [("self" : Str), "ws"]; decide +kernel)
  dsimp only
  sizeOf_list_dec
  refine Ex.assign1 ?_
  repeat sizeOf_list_dec
  refine Asg.attr W ?_
  repeat sizeOf_list_dec
  refine ⟨_, _, _, _, rfl, hx, setIn_W _ _ (by simp), by simp, ?_⟩
  show Exs _ _ _ _ _ _ _ _ _
  sizeOf_list_dec
  refine Ex.assign_pair (by kernel_rfl) (by kernel_rfl) ?_ ?_
  · obtain ⟨t1, e1⟩ := cls_S w.params
    obtain ⟨t2, e2⟩ := cls_T w.params
    sizeOf_list_dec
    refine Ev.clsattr W (reads_W _) e1 rfl (fun zz => .str ..) ?_
    refine Ev.global W (by kernel_rfl) (g_White _) (fun zz => .raw _) ⟨rfl, ?_⟩
    sizeOf_list_dec
    refine Ev.clsattr W (reads_W _) e2 rfl (fun zz => .str ..) ?_
    refine Ev.global W (by kernel_rfl) (g_White _) (fun zz => .raw _) ⟨rfl, ?_⟩
    sizeOf_list_dec
    refine ⟨_, _, rfl, ?_⟩
    repeat sizeOf_list_dec
    refine ⟨by decide, fun L hL => ?_⟩
    show Exs _ _ _ _ _ _ _ _ _
    have xL : L ≠ x := fun q => by rw [q, Mu.set_self] at hL; cases hL
    have S₀ := Same.new (o := .list []) hL
    sizeOf_list_dec
    refine Ex.assign3 ?_
    sizeOf_list_dec
    refine Asg.name (by kernel_rfl) (Asg.name (by kernel_rfl) (Asg.name (by kernel_rfl) ?_))
    show Exs _ _ _ _ _ _ _ _ _
    sizeOf_list_dec
    refine Ex.for_ ?_
    refine Itb.str ?_
    refine Ev.field W ?_
    repeat sizeOf_list_dec
    refine FieldP.intro (S₀ _ _ Mu.set_self) (fieldIn_W _ _ (by simp)) look_here rfl ⟨_, rfl, ?_⟩
    rw [signs_lst]
    refine Loop.ind (fun c => .str (lst [c])) (invW cs x d μ)
      ?_ ?_ cs _ _ ⟨[], L, rfl, rfl, Mu.set_self, hL, S₀⟩ _ (.cons (by array_get_dec) (.cons (by array_get_dec) (.cons (by array_get_dec) (.cons (by array_get_dec) (.cons (look_eq (by array_get_dec) (int_eq (a := 0) (by rfl))) (.cons (look_eq (by array_get_dec) (int_eq (a := 0) (by rfl))) (.cons (look_eq (by array_get_dec) (int_eq (a := 0) (by rfl))) .nil)))))))
    · rintro σ μ₁ ⟨done, L, hd, rfl, hl, hL, S₁⟩
      rw [List.append_nil] at hd
      subst hd
      obtain ⟨w1, w2, w3, w4⟩ := ws_bound cs
      refine ⟨trivial, fun σ' hs => ?_⟩
      refine Exs.sub ?_ hs
      have lx : L ≠ x := fun q => by rw [q, Mu.set_self] at hL; cases hL
      have hx₁ := S₁ _ _ Mu.set_self
      sizeOf_list_dec
      refine Ex.assign1 ?_
      repeat sizeOf_list_dec
      refine Asg.attr W ?_
      repeat sizeOf_list_dec
      refine ⟨_, _, _, _, rfl, hx₁, setIn_W _ _ (by simp), of_decide_eq_true (by kernel_rfl), ?_⟩
      sizeOf_list_dec
      refine Ex.assign1 ?_
      repeat sizeOf_list_dec
      refine Asg.attr W ?_
      repeat sizeOf_list_dec
      refine ⟨_, _, _, _, rfl, Mu.set_self, setIn_W _ _ (by simp), of_decide_eq_true (by kernel_rfl), ?_⟩
      sizeOf_list_dec
      refine Ex.assign1 ?_
      repeat sizeOf_list_dec
      refine Ev.call_b W (by kernel_rfl) (b_none _ _ (by simp)) bb_tuple rfl ?_
      repeat sizeOf_list_dec
      refine Fn.tuple_list (by rw [Mu.set_ne lx, Mu.set_ne lx]; exact hl) (by rw [intsMV_len]; lia) ?_
      repeat sizeOf_list_dec
      refine ⟨by simp, ?_⟩
      refine Asg.attr W ?_
      repeat sizeOf_list_dec
      refine ⟨_, _, _, _, rfl, Mu.set_self, setIn_W _ _ (by simp), of_decide_eq_true (by kernel_rfl), ?_⟩
      sizeOf_list_dec
      refine Ex.assign1 ?_
      repeat sizeOf_list_dec
      refine Ev.call_b W (by kernel_rfl) (b_none _ _ (by simp)) bb_len rfl ?_
      repeat sizeOf_list_dec
      refine Fn.len_list (by rw [Mu.set_ne lx, Mu.set_ne lx, Mu.set_ne lx]; exact hl) (by rw [intsMV_len]; lia) ?_
      repeat sizeOf_list_dec
      rw [intsMV_len]
      refine Asg.attr W ?_
      repeat sizeOf_list_dec
      refine ⟨_, _, _, _, rfl, Mu.set_self, setIn_W _ _ (by simp), of_decide_eq_true (by kernel_rfl), ?_⟩
      repeat sizeOf_list_dec
      refine ⟨rfl, ?_, ((((SameBut.set.trans S₁.but).trans SameBut.set).trans SameBut.set).trans SameBut.set).trans SameBut.set⟩
      rw [Mu.set_self]
      kernel_rfl
    · rintro c rest σ μ₁ ⟨done, L, hd, rfl, hl, hL, S₁⟩
      have hc := hcs c (by rw [hd]; simp)
      obtain ⟨w1, w2, w3, w4⟩ := ws_bound done
      have hdl : done.length + rest.length + 1 = cs.length := by rw [hd]; simp; lia
      refine ⟨trivial, Asg.name (by kernel_rfl) ?_⟩
      repeat sizeOf_list_dec
      rcases hc with rfl | rfl
      · rw [if_pos (by decide +kernel)]
        repeat sizeOf_list_dec
        refine ⟨sgW x L (ws (done ++ [32])), ?_, done ++ [32], L, by rw [hd]; simp, rfl, by rw [ws_snoc]; exact hl, hL, S₁⟩
        rw [ws_snoc]
        exact .cons (by array_get_dec) (.cons (by array_get_dec) (.cons (by array_get_dec) (.cons (by array_get_dec) (.cons (look_eq (by array_get_dec) (int_eq (by rfl))) (.cons (look_eq (by array_get_dec) (int_eq (by rfl))) (.cons (look_eq (by array_get_dec) (int_eq (by rfl))) .nil))))))
      · rw [if_neg (by decide +kernel)]
        repeat sizeOf_list_dec
        rw [if_pos (by decide +kernel)]
        repeat sizeOf_list_dec
        refine Ev.call_b W (by kernel_rfl) (b_none _ _ (by simp)) bb_len rfl ?_
        repeat sizeOf_list_dec
        refine Fn.len_list hl (by rw [intsMV_len]; lia) ?_
        repeat sizeOf_list_dec
        rw [intsMV_len]
        have hset : ∀ {μ₂ : Mu} {L₂ : Addr} {cnt : List Nat} {σ₂ : Sg}, μ₂ L₂ = some (.list (intsMV cnt)) → (ws done).b < cnt.length → cnt.length ≤ 1000 → bump (ws done).count (ws done).b = cnt.set (ws done).b (cnt.getD (ws done).b 0 + 1) → True := fun zz zz zz zz => trivial
        clear hset
        by_cases q : (ws done).count.length ≤ (ws done).b
        · rw [if_pos (by simpa using q)]
          have hb : bump (ws done).count (ws done).b = ((ws done).count ++ List.replicate ((ws done).b - (ws done).count.length + 1) 0).set (ws done).b (((ws done).count ++ List.replicate ((ws done).b - (ws done).count.length + 1) 0).getD (ws done).b 0 + 1) := by unfold bump; dsimp only; rw [if_pos q]
          generalize hcnt : (ws done).count ++ List.replicate ((ws done).b - (ws done).count.length + 1) 0 = cnt at hb
          have hcl : cnt.length = (ws done).b + 1 := by rw [← hcnt, List.length_append, List.length_replicate]; lia
          repeat sizeOf_list_dec
          refine ⟨by decide, fun D hD => ?_⟩
          have SD := Same.new (o := .list [.int 0]) hD
          repeat sizeOf_list_dec
          refine Ev.call_b W (by kernel_rfl) (b_none _ _ (by simp)) bb_len rfl ?_
          repeat sizeOf_list_dec
          refine Fn.len_list (SD _ _ hl) (by rw [intsMV_len]; lia) ?_
          repeat sizeOf_list_dec
          rw [intsMV_len]
          refine Op.mul_list1 Mu.set_self (by lia) (by lia) fun D₂ hD₂ => ?_
          have SD₂ := Same.new (o := .list (List.replicate ((((ws done).b : Nat) : Int) - (((ws done).count.length : Nat) : Int) + 1).toNat (.int 0))) hD₂
          refine Op.add_list ((SD.trans SD₂) _ _ hl) Mu.set_self (by rw [intsMV_len]; lia) (by rw [List.length_replicate]; lia) fun D₃ hD₃ => ?_
          have SD₃ := Same.new (o := .list (intsMV (ws done).count ++ List.replicate ((((ws done).b : Nat) : Int) - (((ws done).count.length : Nat) : Int) + 1).toNat (.int 0))) hD₃
          have S₃ := ((S₁.trans SD).trans SD₂).trans SD₃
          have h3 : (μ.set x (.inst 107 d (put "raw" (.str (lst cs)) []))) D₃ = none := by
            cases e : (μ.set x (.inst 107 d (put "raw" (.str (lst cs)) []))) D₃ with
            | none => rfl
            | some o => have := ((S₁.trans SD).trans SD₂) _ _ e; rw [hD₃] at this; cases this
          have e3 : intsMV (ws done).count ++ List.replicate ((((ws done).b : Nat) : Int) - (((ws done).count.length : Nat) : Int) + 1).toNat (MV.int 0) = intsMV cnt := by
            rw [← hcnt]; unfold intsMV; rw [List.map_append, List.map_replicate]
            have : ((((ws done).b : Nat) : Int) - (((ws done).count.length : Nat) : Int) + 1).toNat = (ws done).b - (ws done).count.length + 1 := by lia
            rw [this]; rfl
          rw [e3] at S₃ ⊢
          repeat sizeOf_list_dec
          refine Ex.assign1 ?_
          repeat sizeOf_list_dec
          refine ItemT.list Mu.set_self (by lia) (by lia) (intsMV_at cnt _ (by lia)) ?_
          repeat sizeOf_list_dec
          refine Asg.item ?_
          repeat sizeOf_list_dec
          refine SetT.list Mu.set_self (by lia) (by rw [intsMV_len]; lia) (by lia) ?_
          repeat sizeOf_list_dec
          refine ⟨sgW x D₃ (ws (done ++ [9])), ?_, done ++ [9], D₃, by rw [hd]; simp, rfl, ?_, h3, S₃.via SameBut.set h3⟩
          · rw [ws_snoc]
            exact .cons (by array_get_dec) (.cons (by array_get_dec) (.cons (by array_get_dec) (.cons (by array_get_dec) (.cons (look_eq (by array_get_dec) (int_eq (by rfl))) (.cons (look_eq (by array_get_dec) (int_eq (by rfl))) (.cons (look_eq (by array_get_dec) (int_eq (by rfl))) .nil))))))
          · rw [Mu.set_self, ws_snoc]
            show some (MO.list ((intsMV cnt).set (ws done).b (.int ((cnt.getD (ws done).b 0 + 1 : Nat) : Int)))) = some (MO.list (intsMV (bump (ws done).count (ws done).b)))
            rw [intsMV_set, hb]
        · rw [if_neg (by simpa using q)]
          have hb : bump (ws done).count (ws done).b = (ws done).count.set (ws done).b ((ws done).count.getD (ws done).b 0 + 1) := by unfold bump; dsimp only; rw [if_neg q]
          repeat sizeOf_list_dec
          refine Ex.assign1 ?_
          repeat sizeOf_list_dec
          refine ItemT.list hl (by lia) (by lia) (intsMV_at _ _ (by lia)) ?_
          repeat sizeOf_list_dec
          refine Asg.item ?_
          repeat sizeOf_list_dec
          refine SetT.list hl (by lia) (by rw [intsMV_len]; lia) (by lia) ?_
          repeat sizeOf_list_dec
          refine ⟨sgW x L (ws (done ++ [9])), ?_, done ++ [9], L, by rw [hd]; simp, rfl, ?_, hL, S₁.via SameBut.set hL⟩
          · rw [ws_snoc]
            exact .cons (by array_get_dec) (.cons (by array_get_dec) (.cons (by array_get_dec) (.cons (by array_get_dec) (.cons (look_eq (by array_get_dec) (int_eq (by rfl))) (.cons (look_eq (by array_get_dec) (int_eq (by rfl))) (.cons (look_eq (by array_get_dec) (int_eq (by rfl))) .nil))))))
          · rw [Mu.set_self, ws_snoc]
            show some (MO.list ((intsMV (ws done).count).set (ws done).b (.int (((ws done).count.getD (ws done).b 0 + 1 : Nat) : Int)))) = some (MO.list (intsMV (bump (ws done).count (ws done).b)))
            rw [intsMV_set, hb]
  · intro env h1 h2 h3
    unfold swappedStores
    simp only [h1, List.filterMap_cons, List.filterMap_nil, h2, h3]
    kernel_rfl
end
noncomputable def intsD (l : List Nat) : List PyData := l.map fun (c : Nat) => .int (c : Int)
noncomputable def normD (s : WS) : PyData := .tuple [.tuple (intsD s.count), .int (s.b : Int)]
theorem intsD_lay : ∀ l : List Nat, PyData.canLayAll0 (intsD l) = true ∧ PyData.depthAll (intsD l) = 0
  | [] => ⟨rfl, rfl⟩
  | a :: r => by
    obtain ⟨h1, h2⟩ := intsD_lay r
    constructor
    · show (true && PyData.canLayAll0 (intsD r)) = true; rw [h1]; rfl
    · show max 0 (PyData.depthAll (intsD r)) = 0; rw [h2]; rfl
theorem normD_ok (s : WS) : SeqAt.shaped (normD s) = true := by
  obtain ⟨h1, h2⟩ := intsD_lay s.count
  unfold SeqAt.shaped normD
  show (((PyData.canLayAll0 (intsD s.count)) && (true && true)) && decide (max (PyData.depthAll (intsD s.count) + 1) (max 0 0) + 1 ≤ 64)) = true
  rw [h1, h2]; rfl
theorem intsD_eqv : ∀ a b : List Nat, PyData.eqvAll (intsD a) (intsD b) = decide (a = b)
  | [], [] => rfl
  | [], _ :: _ => rfl
  | _ :: _, [] => rfl
  | a :: r, b :: t => by
    show (((a : Int) == (b : Int)) && PyData.eqvAll (intsD r) (intsD t)) = _
    rw [intsD_eqv r t]
    by_cases e : a = b
    · subst e
      by_cases e2 : r = t
      · subst e2; simp
      · simp [e2]
    · have : ((a : Int) == (b : Int)) = false := beq_eq_false_iff_ne.mpr fun q => e (by lia)
      rw [this]; simp [e]
theorem normD_eqv (s o : WS) : PyData.eqv (normD s) (normD o) = decide (s.count = o.count ∧ s.b = o.b) := by
  show (PyData.eqvAll (intsD s.count) (intsD o.count) && (((s.b : Int) == (o.b : Int)) && true)) = _
  rw [intsD_eqv]
  by_cases e : s.b = o.b
  · simp [e]
  · have : ((s.b : Int) == (o.b : Int)) = false := beq_eq_false_iff_ne.mpr fun q => e (by lia)
    rw [this]; simp [e]
theorem PDL_ints (μ : Mu) : ∀ l : List Nat, PDL μ (intsMV l) (intsD l)
  | [] => .nil
  | a :: r => .cons (.int _) (PDL_ints μ r)
theorem PD_norm (μ : Mu) (s : WS) : PD μ (.tup [.tup (intsMV s.count), .int (s.b : Int)]) (normD s) := .tup (.cons (.tup (PDL_ints μ _)) (.cons (.int _) .nil))

section
variable {w : World} {base : Heap} {prog : Program} {n : Nat} {μ : Mu}
theorem Fn.len_tup {items : List MV} {post : MV → Mu → Prop} (hx : items.length ≤ 100000) (h : post (.int items.length) μ) : Fn prog w base n (.builtin "len") [.tup items] [] μ post := .of1 fun A s v R H i => by
  cases i with
  | tup ht il =>
    unfold EvT
    with_reducible refine PyProof.Rows.len_tuple ht ?_ ?_
    · rw [List.size_toArray, il.length]; lia
    · refine ⟨.int items.length, _, h, .tok H, ?_⟩
      rw [List.size_toArray, il.length]; exact .int ..
end

/-- a Whitespace -/
structure Wsp (μ : Mu) (x : Addr) (s : WS) : Prop where
  inst : ∃ d cs, μ x = some (.inst 107 d (wsF cs)) ∧ ws cs = s ∧ cs.length ≤ 500
theorem Wsp.same {μ μ' : Mu} {x : Addr} {s : WS} (T : Wsp μ x s) (h : Same μ μ') : Wsp μ' x s := ⟨by obtain ⟨d, cs, e, r⟩ := T.inst; exact ⟨d, cs, h _ _ e, r⟩⟩
noncomputable def ilOf (count : List Nat) (ts : Nat) : Nat := ((List.range (count.length - ts)).map fun j => (ts + j) / ts * count.getD (ts + j) 0).sum
noncomputable def indentOf (s : WS) (ts : Nat) : Nat := s.b + ts * (ilOf s.count ts + s.nt)

noncomputable def termI (s : WS) (ts j : Nat) : Nat := (ts + j) / ts * s.count.getD (ts + j) 0
noncomputable abbrev sgI (x : Addr) (s : WS) (ts il : Nat) : Sg := [("self", .ref x), ("tabsize", .int (ts : Int)), ("count", .tup (intsMV s.count)), ("trailing", .int (s.b : Int)), ("il", .int (il : Int))]
section
variable {w : World} {base : Heap} {prog : Program} {n : Nat} {μ : Mu}
theorem make_W (P : Params) : makeIn (frag.heap_1 P) 107 62 = true := by kernel_rfl
theorem methIn_longest (P : Params) : methIn (frag.heap_1 P) 107 "longest_run_of_spaces" 69 = true := by kernel_rfl
theorem methIn_indent (P : Params) : methIn (frag.heap_1 P) 107 "indent_level" 76 = true := by kernel_rfl
theorem methIn_equal (P : Params) : methIn (frag.heap_1 P) 107 "equal" 83 = true := by kernel_rfl
theorem methIn_witness (P : Params) : methIn (frag.heap_1 P) 107 "not_equal_witness" 90 = true := by kernel_rfl
theorem keep_W (P : Params) : keepIn (frag.heap_1 P) (.ref 107) = true := by kernel_rfl
theorem fn_White (W : WF w (frag.heap_1 w.params) base) {cs : List Nat} (hcs : ∀ c ∈ cs, c = 32 ∨ c = 9) (hz : cs.length ≤ 500) :
    Fn prog w base (n + 1 + 1) (.ref 107) [.str (lst cs)] [] μ (fun v μ' => ∃ x, v = .ref x ∧ Wsp μ' x (ws cs) ∧ Same μ μ' ∧ μ x = none) := by
  refine Fn.make W (make_W _) fun x d hx hd => ?_
  refine (fn_initW W (x := x) (d := d) Mu.set_self hcs hz).mono ?_
  rintro _ μ' ⟨rfl, h1, h2⟩
  exact ⟨rfl, x, rfl, ⟨⟨d, cs, h1, rfl, hz⟩⟩, (Same.new hx).via h2 hx, hx⟩
theorem wsF_look (cs : List Nat) : List.lookup ("n" : Str) (wsF cs) = some (MV.int (ws cs).n) ∧ List.lookup ("nt" : Str) (wsF cs) = some (MV.int (ws cs).nt) ∧ List.lookup ("norm" : Str) (wsF cs) = some (MV.tup [.tup (intsMV (ws cs).count), .int (ws cs).b]) := ⟨by kernel_rfl, by kernel_rfl, by kernel_rfl⟩

theorem fn_longest (W : WF w (frag.heap_1 w.params) base) {x : Addr} {s : WS} (T : Wsp μ x s) :
    FnC prog w base (n + 1) (.ref 69) [.ref x] [] μ (fun v μ' => v = .int (max ((s.count.length : Int) - 1) (s.b : Int)) ∧ μ = μ') := by
  refine FnC.def_ (σ₀ := [("self", .ref x)]) W ⟨_, _, _, rfl, ?hc, rfl, rfl, rfl, rfl, rfl, rfl, rfl⟩ (FnC.pos1 fun zz => rfl) ?hn (by kernel_rfl) ?_
  case hc => kernel_rfl
  case hn => (show List.Nodup [("self" : Str)]; decide +kernel)
  dsimp only
  obtain ⟨d, cs, hx, rfl, hz⟩ := T.inst
  have hb := ws_bound cs
  sizeOf_list_dec
  refine Ex.assign1 ?_
  refine Ev.field W ?_
  repeat sizeOf_list_dec
  refine FieldP.intro (hx) (fieldIn_W _ _ (by simp)) (wsF_look cs).2.2 rfl ?_
  refine Asg.tuple (Asgs.cons (Asg.name (by kernel_rfl) (Asgs.cons (Asg.name (by kernel_rfl) (Asgs.nil ?_)))))
  repeat sizeOf_list_dec
  refine Ev.call_b W (by kernel_rfl) (b_none _ _ (by simp)) bb_max rfl ?_
  repeat sizeOf_list_dec
  refine Ev.call_b W (by kernel_rfl) (b_none _ _ (by simp)) bb_len rfl ?_
  repeat sizeOf_list_dec
  refine Fn.len_tup (by rw [intsMV_len]; lia) ?_
  repeat sizeOf_list_dec
  refine Fn.max2 ?_
  repeat sizeOf_list_dec
  rw [intsMV_len]
  exact ⟨rfl, rfl⟩

theorem fn_indent (W : WF w (frag.heap_1 w.params) base) {x : Addr} {s : WS} (T : Wsp μ x s) {ts : Nat} (h0 : 1 ≤ ts) (hts : ts ≤ 100000) :
    FnC prog w base (n + 1) (.ref 76) [.ref x, .int (ts : Int)] [] μ (fun v μ' => v = .int (indentOf s ts : Nat) ∧ μ = μ') := by
  refine FnC.def_ (σ₀ := [("self", .ref x), ("tabsize", .int (ts : Int))]) W ⟨_, _, _, rfl, ?hc, rfl, rfl, rfl, rfl, rfl, rfl, rfl⟩ (FnC.pos2 fun zz zz => rfl) ?hn (by kernel_rfl) ?_
  case hc => kernel_rfl
  case hn => (show List.Nodup [("self" : Str), "tabsize"]; decide +kernel)
  dsimp only
  obtain ⟨d, cs, hx, rfl, hz⟩ := T.inst
  obtain ⟨w1, w2, w3, w4⟩ := ws_bound cs
  sizeOf_list_dec
  refine Ex.assign1 ?_
  refine Ev.field W ?_
  repeat sizeOf_list_dec
  refine FieldP.intro (hx) (fieldIn_W _ _ (by simp)) (wsF_look cs).2.2 rfl ?_
  refine Asg.tuple (Asgs.cons (Asg.name (by kernel_rfl) (Asgs.cons (Asg.name (by kernel_rfl) (Asgs.nil ?_)))))
  repeat sizeOf_list_dec
  refine Ex.for_ (Itb.range2 W (by kernel_rfl) (b_none _ _ (by simp)) bb_range ?_)
  repeat sizeOf_list_dec
  refine Ev.call_b W (by kernel_rfl) (b_none _ _ (by simp)) bb_len rfl ?_
  repeat sizeOf_list_dec
  refine Fn.len_tup (by rw [intsMV_len]; lia) ?_
  repeat sizeOf_list_dec
  have hlen : (intsMV (ws cs).count).length = (ws cs).count.length := intsMV_len ..
  refine ⟨(ts : Int), ((intsMV (ws cs).count).length : Int), rfl, by lia, by lia, by rw [hlen]; lia, by rw [hlen]; lia, ?_⟩
  rw [hlen]
  have hu : upto (ts : Int) ((ws cs).count.length : Int) = (List.range ((ws cs).count.length - ts)).map (fun j : Nat => MV.int ((ts + j : Nat) : Int)) := by
    unfold upto
    rw [show (((ws cs).count.length : Int) - (ts : Int)).toNat = (ws cs).count.length - ts by lia]
    apply List.map_congr_left; intro j _; rw [Int.natCast_add]
  rw [hu]
  refine Loop.ind (fun j : Nat => MV.int ((ts + j : Nat) : Int)) (fun rest σ μ₁ => ∃ done : List Nat, List.range ((ws cs).count.length - ts) = done ++ rest ∧
      σ = sgI x (ws cs) ts (done.map (termI (ws cs) ts)).sum ∧ μ = μ₁) ?_ ?_ _ _ _ ⟨[], rfl, rfl, rfl⟩ _
      (.cons (by array_get_dec) (.cons (by array_get_dec) (.cons (by array_get_dec) (.cons (by array_get_dec) (.cons (look_eq (by array_get_dec) (int_eq (a := 0) (by rfl))) .nil)))))
  · rintro σ μ₁ ⟨done, hd, rfl, rfl⟩
    rw [List.append_nil] at hd
    refine ⟨trivial, fun σ' hs => ?_⟩
    refine Exs.sub ?_ hs
    subst hd
    repeat sizeOf_list_dec
    refine Ev.field W ?_
    repeat sizeOf_list_dec
    refine FieldP.intro (hx) (fieldIn_W _ _ (by simp)) (wsF_look cs).2.1 rfl ?_
    repeat sizeOf_list_dec
    refine Op.mul_int ⟨by lia, by lia⟩ ?_
    repeat sizeOf_list_dec
    refine ⟨int_eq ?_, rfl⟩
    unfold indentOf ilOf
    rw [Int.natCast_add, Int.natCast_mul, Int.natCast_add]
    rfl
  · rintro j r σ μ₁ ⟨done, hd, rfl, rfl⟩
    refine ⟨trivial, ?_⟩
    have hj : j < (ws cs).count.length - ts := List.mem_range.mp (by rw [hd]; simp)
    refine Asg.name (by kernel_rfl) ?_
    repeat sizeOf_list_dec
    refine Op.div_int (by lia) (by lia) ?_
    refine Ev.item ?_ (fun zz zz => ⟨_, rfl⟩)
    repeat sizeOf_list_dec
    refine ItemT.tup (m := MV.int (((ws cs).count.getD (ts + j) 0 : Nat) : Int)) (by lia) (by lia) ?_ ?_
    · rw [Int.toNat_natCast]
      unfold intsMV
      rw [List.getElem?_map, List.getElem?_eq_getElem (by lia), Option.map_some, List.getD_eq_getElem?_getD, List.getElem?_eq_getElem (by lia), Option.getD_some]
    refine Op.mul_int ?_ ?_
    · have : ((ts + j : Nat) : Int).fdiv (ts : Int) = (((ts + j) / ts : Nat) : Int) := by rw [Int.fdiv_eq_ediv_of_nonneg _ (by lia)]; rfl
      have h2 : (ts + j) / ts ≤ ts + j := Nat.div_le_self ..
      rw [this]; generalize (ts + j) / ts = q at h2 ⊢; lia
    repeat sizeOf_list_dec
    refine ⟨_, .cons (by array_get_dec) (.cons (by array_get_dec) (.cons (by array_get_dec) (.cons (by array_get_dec) (.cons (look_eq (by array_get_dec) (int_eq ?_)) .nil)))), done ++ [j], by rw [hd]; simp, rfl, rfl⟩
    rw [List.map_append, List.sum_append, List.map_cons, List.map_nil, List.sum_cons, List.sum_nil, Nat.add_zero]
    unfold termI
    have : ((ts + j : Nat) : Int).fdiv (ts : Int) = (((ts + j) / ts : Nat) : Int) := by rw [Int.fdiv_eq_ediv_of_nonneg _ (by lia)]; rfl
    rw [this, Int.natCast_add, Int.natCast_mul]

theorem fn_equal (W : WF w (frag.heap_1 w.params) base) {x y : Addr} {s o : WS} (T : Wsp μ x s) (U : Wsp μ y o) :
    FnC prog w base (n + 1) (.ref 83) [.ref x, .ref y] [] μ (fun v μ' => v = .bool (decide (s.count = o.count ∧ s.b = o.b)) ∧ μ = μ') := by
  refine FnC.def_ (σ₀ := [("self", .ref x), ("other", .ref y)]) W ⟨_, _, _, rfl, ?hc, rfl, rfl, rfl, rfl, rfl, rfl, rfl⟩ (FnC.pos2 fun zz zz => rfl) ?hn (by kernel_rfl) ?_
  case hc => kernel_rfl
  case hn => (show List.Nodup [("self" : Str), "other"]; decide +kernel)
  dsimp only
  obtain ⟨d, cs, hx, rfl, hz⟩ := T.inst
  obtain ⟨d2, ds, hy, rfl, hz2⟩ := U.inst
  repeat sizeOf_list_dec
  refine Ev.field W ?_
  repeat sizeOf_list_dec
  refine FieldP.intro (hx) (fieldIn_W _ _ (by simp)) (wsF_look cs).2.2 rfl ?_
  refine Ev.field W ?_
  repeat sizeOf_list_dec
  refine FieldP.intro (hy) (fieldIn_W _ _ (by simp)) (wsF_look ds).2.2 rfl ?_
  refine Op.eq_data (PD_norm _ _) (PD_norm _ _) (normD_ok _) (normD_ok _) ?_
  rw [normD_eqv]
  exact ⟨rfl, rfl⟩

end
/-- the tab sizes at which two indents differ -/
noncomputable def witD (s o : WS) : List Nat := (List.range (max s.count.length (max s.b (max o.count.length o.b)))).filter fun j => decide (indentOf s (1 + j) ≠ indentOf o (1 + j))
noncomputable def witMV (s o : WS) (j : Nat) : MV := .tup [.int ((1 + j : Nat) : Int), .int (indentOf s (1 + j) : Nat), .int (indentOf o (1 + j) : Nat)]
noncomputable abbrev sgQ (x y L : Addr) (k : Int) : Sg := [("self", .ref x), ("other", .ref y), ("n", .int k), ("a", .ref L)]
section
variable {w : World} {base : Heap} {prog : Program} {n : Nat} {μ : Mu}
noncomputable abbrev invQ (cs ds : List Nat) (x y L : Addr) (k : Int) (μ : Mu) : List Nat → Sg → Mu → Prop := fun rest σ μ₁ => ∃ done : List Nat, List.range k.toNat = done ++ rest ∧ σ = sgQ x y L k ∧ μ₁ L = some (.list ((done.filter fun j => decide (indentOf (ws cs) (1 + j) ≠ indentOf (ws ds) (1 + j))).map (witMV (ws cs) (ws ds)))) ∧ Same μ μ₁
theorem fn_witness (W : WF w (frag.heap_1 w.params) base) {x y : Addr} {s o : WS} (T : Wsp μ x s) (U : Wsp μ y o) :
    FnC prog w base (n + 2) (.ref 90) [.ref x, .ref y] [] μ (fun v μ' => ∃ L js, v = .ref L ∧ μ' L = some (.list (js.map (witMV s o))) ∧ Same μ μ' ∧
      js = (List.range (max (max ((s.count.length : Int) - 1) (s.b : Int)) (max ((o.count.length : Int) - 1) (o.b : Int)) + 1).toNat).filter fun j => decide (indentOf s (1 + j) ≠ indentOf o (1 + j))) := by
  refine FnC.def_ (σ₀ := [("self", .ref x), ("other", .ref y)]) W ⟨_, _, _, rfl, ?hc, rfl, rfl, rfl, rfl, rfl, rfl, rfl⟩ (FnC.pos2 fun zz zz => rfl) ?hn (by kernel_rfl) ?_
  case hc => kernel_rfl
  case hn => (show List.Nodup [("self" : Str), "other"]; decide +kernel)
  dsimp only
  obtain ⟨d, cs, hx, rfl, hz⟩ := T.inst
  obtain ⟨d2, ds, hy, rfl, hz2⟩ := U.inst
  obtain ⟨w1, w2, w3, w4⟩ := ws_bound cs
  obtain ⟨u1, u2, u3, u4⟩ := ws_bound ds
  repeat sizeOf_list_dec
  refine Ev.call_b W (by kernel_rfl) (b_none _ _ (by simp)) bb_max rfl ?_
  repeat sizeOf_list_dec
  refine Ev.meth W ?_
  repeat sizeOf_list_dec
  refine MethP.intro (f := 69) (hx) (methIn_longest _) (by kernel_rfl) ?_
  repeat sizeOf_list_dec
  refine Fn.eqs ((fn_longest (n := n) W T).le (by lia)).toFn ?_
  repeat sizeOf_list_dec
  refine Ev.meth W ?_
  repeat sizeOf_list_dec
  refine MethP.intro (f := 69) (hy) (methIn_longest _) (by kernel_rfl) ?_
  repeat sizeOf_list_dec
  refine Fn.eqs ((fn_longest (n := n) W U).le (by lia)).toFn ?_
  repeat sizeOf_list_dec
  refine Fn.max2 ?_
  generalize hk : max (max (((ws cs).count.length : Int) - 1) ((ws cs).b : Int)) (max (((ws ds).count.length : Int) - 1) ((ws ds).b : Int)) + 1 = k
  have hk0 : 0 ≤ k := hk ▸ Int.le_add_one (Int.le_trans (Int.natCast_nonneg _) (Int.le_trans (Int.le_max_right _ _) (Int.le_max_left _ _)))
  have hm : max (max (((ws cs).count.length : Int) - 1) ((ws cs).b : Int)) (max (((ws ds).count.length : Int) - 1) ((ws ds).b : Int)) ≤ 500 := Int.max_le.mpr ⟨Int.max_le.mpr ⟨by lia, by lia⟩, Int.max_le.mpr ⟨by lia, by lia⟩⟩
  have hk1 : k ≤ 501 := by rw [← hk]; exact Int.add_le_add_right hm 1
  repeat sizeOf_list_dec
  rw [hk]
  refine ⟨by decide, fun L hL => ?_⟩
  repeat sizeOf_list_dec
  refine Ex.for_ (Itb.range2 W (by kernel_rfl) (b_none _ _ (by simp)) bb_range ?_)
  repeat sizeOf_list_dec
  refine ⟨1, k + 1, rfl, by lia, by lia, by lia, by lia, ?_⟩
  have hu : upto 1 (k + 1) = (List.range k.toNat).map (fun j : Nat => MV.int ((1 + j : Nat) : Int)) := by
    unfold upto
    rw [show (k + 1 - 1).toNat = k.toNat by lia]
    apply List.map_congr_left; intro j _; rw [Int.natCast_add]; rfl
  rw [hu]
  refine Loop.ind (fun j : Nat => MV.int ((1 + j : Nat) : Int)) (invQ cs ds x y L k μ) ?_ ?_ _ _ _
      ⟨[], rfl, rfl, Mu.set_self, Same.new hL⟩ _
      (.cons (by array_get_dec) (.cons (by array_get_dec) (.cons (by array_get_dec) (.cons (by array_get_dec) .nil))))
  · rintro σ μ₁ ⟨done, hd, rfl, hl, S₁⟩
    rw [List.append_nil] at hd
    refine ⟨trivial, fun σ' hs => ?_⟩
    refine Exs.sub ?_ hs
    subst hd
    repeat sizeOf_list_dec
    exact ⟨L, _, rfl, hl, S₁, rfl⟩
  · rintro j r σ μ₁ ⟨done, hd, rfl, hl, S₁⟩
    refine ⟨trivial, ?_⟩
    have hj : j < k.toNat := List.mem_range.mp (by rw [hd]; simp)
    have hdl : done.length ≤ k.toNat := by have := congrArg List.length hd; rw [List.length_range, List.length_append] at this; lia
    refine Asg.name (by kernel_rfl) ?_
    repeat sizeOf_list_dec
    refine Ev.meth W ?_
    repeat sizeOf_list_dec
    refine MethP.intro (f := 76) (S₁ _ _ hx) (methIn_indent _) (by kernel_rfl) ?_
    repeat sizeOf_list_dec
    refine Fn.eqs ((fn_indent (n := n) W (T.same S₁) (ts := 1 + j) (by lia) (by lia)).le (by lia)).toFn ?_
    repeat sizeOf_list_dec
    refine Ev.meth W ?_
    repeat sizeOf_list_dec
    refine MethP.intro (f := 76) (S₁ _ _ hy) (methIn_indent _) (by kernel_rfl) ?_
    repeat sizeOf_list_dec
    refine Fn.eqs ((fn_indent (n := n) W (U.same S₁) (ts := 1 + j) (by lia) (by lia)).le (by lia)).toFn ?_
    repeat sizeOf_list_dec
    have hne : ((((indentOf (ws cs) (1 + j) : Nat) : Int)) != ((indentOf (ws ds) (1 + j) : Nat) : Int)) = decide (indentOf (ws cs) (1 + j) ≠ indentOf (ws ds) (1 + j)) := by
      by_cases e : indentOf (ws cs) (1 + j) = indentOf (ws ds) (1 + j)
      · rw [e]; simp
      · rw [bne_iff_ne.mpr (fun q => e (by lia))]; simp [e]
    rw [hne]
    by_cases e : indentOf (ws cs) (1 + j) = indentOf (ws ds) (1 + j)
    · rw [if_neg (by simp [e])]
      repeat sizeOf_list_dec
      refine ⟨sgQ x y L k, .cons (by array_get_dec) (.cons (by array_get_dec) (.cons (by array_get_dec) (.cons (by array_get_dec) .nil))), done ++ [j], by rw [hd]; simp, rfl, ?_, S₁⟩
      rw [List.filter_append, List.filter_cons_of_neg (by simp [e]), List.filter_nil, List.append_nil]; exact hl
    · rw [if_pos (by simp [e])]
      repeat sizeOf_list_dec
      refine Ex.expr ?_
      refine Ev.meth_b ?_
      repeat sizeOf_list_dec
      refine MethB.intro (BM.list hl PySem.F.slot_list_append PySem.F.type_list_append) ?_
      repeat sizeOf_list_dec
      refine Ev.meth W ?_
      repeat sizeOf_list_dec
      refine MethP.intro (f := 76) (S₁ _ _ hx) (methIn_indent _) (by kernel_rfl) ?_
      repeat sizeOf_list_dec
      refine Fn.eqs ((fn_indent (n := n) W (T.same S₁) (ts := 1 + j) (by lia) (by lia)).le (by lia)).toFn ?_
      repeat sizeOf_list_dec
      refine Ev.meth W ?_
      repeat sizeOf_list_dec
      refine MethP.intro (f := 76) (S₁ _ _ hy) (methIn_indent _) (by kernel_rfl) ?_
      repeat sizeOf_list_dec
      refine Fn.eqs ((fn_indent (n := n) W (U.same S₁) (ts := 1 + j) (by lia) (by lia)).le (by lia)).toFn ?_
      repeat sizeOf_list_dec
      refine ⟨by simp, ?_⟩
      repeat sizeOf_list_dec
      refine Fn.append hl (by rw [List.length_map]; exact Nat.le_trans (List.length_filter_le ..) (by lia)) ⟨rfl, ?_⟩
      repeat sizeOf_list_dec
      refine ⟨sgQ x y L k, .cons (by array_get_dec) (.cons (by array_get_dec) (.cons (by array_get_dec) (.cons (by array_get_dec) .nil))), done ++ [j], by rw [hd]; simp, rfl, ?_, S₁.via SameBut.set hL⟩
      rw [Mu.set_self, List.filter_append, List.filter_cons_of_pos (by simp [e]), List.filter_nil, List.map_append]; rfl
end
noncomputable def sizeR (r : Row) : Nat := r.2.1 + r.2.2
noncomputable def least (rows : List Row) : Option Row := rows.find? fun r => rows.all fun q => decide (sizeR r ≤ sizeR q)
noncomputable def stepT (room : Nat) (rows : List Row) (a : Ask) : List Row :=
  match getRow rows a.1.1 with
  | some r => delRow rows a.1.1 ++ [(a.1, grow a.2 r.2)]
  | none => if rows.length ≤ room then rows ++ [(a.1, grow a.2 (0, 0))] else
    match least rows with
    | some m => delRow rows m.1.1 ++ [(a.1, grow a.2 m.2)]
    | none => rows
noncomputable def takenOver (asked : List Ask) (room : Nat) : List Row := asked.foldl (stepT room) []

theorem least_some {rows : List Row} {m : Row} (h : least rows = some m) : m ∈ rows ∧ ∀ r ∈ rows, sizeR m ≤ sizeR r :=
  ⟨List.mem_of_find?_eq_some h, fun r hr => by have := List.find?_some h; simpa using List.all_eq_true.mp this r hr⟩
theorem least_at {rows : List Row} {j : Nat} {m : Row} (h1 : rows[j]? = some m) (h2 : ∀ r ∈ rows, sizeR m ≤ sizeR r) (h3 : ∀ i < j, ∀ r, rows[i]? = some r → sizeR r ≠ sizeR m) : least rows = some m := by
  unfold least
  have hj : j < rows.length := by rcases Nat.lt_or_ge j rows.length with q | q; exact q; rw [List.getElem?_eq_none_iff.mpr q] at h1; cases h1
  rw [List.find?_eq_some_iff_getElem]
  refine ⟨List.all_eq_true.mpr fun q hq => decide_eq_true (h2 q hq), j, hj, by rw [List.getElem?_eq_getElem hj] at h1; exact Option.some.inj h1, fun i hi => ?_⟩
  have := h3 i hi _ (List.getElem?_eq_getElem (by lia))
  simp only [Bool.not_eq_true', List.all_eq_false]
  have hm : m ∈ rows := List.mem_of_getElem? h1
  refine ⟨m, hm, ?_⟩
  have := h2 rows[i] (List.getElem_mem ..)
  simp; lia

/-- rows, after k askings, none of them empty -/
structure RowsT (k : Nat) (rows : List Row) : Prop extends Rows k rows where
  pos : ∀ r ∈ rows, 1 ≤ sizeR r
theorem RowsT.put {k : Nat} {rows rows' : List Row} {a : Ask} {p : Nat × Nat} (h : RowsT k rows) (ha : okAsk a) (hs : rows'.Sublist rows) (hno : ∀ r ∈ rows', r.1.1 ≠ a.1.1) (hp : p.1 ≤ k ∧ p.2 ≤ k) : RowsT (k + 1) (rows' ++ [(a.1, grow a.2 p)]) := by
  obtain ⟨ha1, ha2⟩ := ha
  have hl := hs.length_le
  have := h.len
  refine ⟨⟨?_, fun r hr => ?_, ?_⟩, fun r hr => ?_⟩
  · rw [List.map_append]
    refine List.nodup_append.mpr ⟨h.nodup.sublist (hs.map _), by simp, fun x hx y hy e => ?_⟩
    obtain ⟨b, hb, eb⟩ := List.mem_map.mp hx
    simp at hy
    exact hno b hb (by rw [eb, e, hy])
  · rcases List.mem_append.mp hr with hr | hr
    · obtain ⟨q1, q2, q3⟩ := h.le r (hs.subset hr); exact ⟨q1, by lia, by lia⟩
    · cases List.mem_singleton.mp hr
      unfold grow
      exact ⟨ha1, by show p.1 + 1 - a.2 ≤ _; lia, by show p.2 + a.2 ≤ _; lia⟩
  · rw [List.length_append]; simp; lia
  · rcases List.mem_append.mp hr with hr | hr
    · exact h.pos r (hs.subset hr)
    · cases List.mem_singleton.mp hr
      unfold sizeR grow; show 1 ≤ p.1 + 1 - a.2 + (p.2 + a.2); lia
theorem RowsT.step {k room : Nat} {rows : List Row} {a : Ask} (h : RowsT k rows) (ha : okAsk a) : RowsT (k + 1) (stepT room rows a) := by
  unfold stepT
  cases hg : getRow rows a.1.1 with
  | some r =>
    dsimp only
    obtain ⟨hr, hri⟩ := getRow_some hg
    obtain ⟨q1, q2, q3⟩ := h.le r hr
    exact h.put ha List.filter_sublist (fun r hr => by have := (List.mem_filter.mp hr).2; simpa using this) ⟨q2, q3⟩
  | none =>
    dsimp only
    split
    · exact h.put ha (List.Sublist.refl _) (getRow_none hg) ⟨Nat.zero_le _, Nat.zero_le _⟩
    · cases hm : least rows with
      | some m =>
        dsimp only
        obtain ⟨hr, _⟩ := least_some hm
        obtain ⟨q1, q2, q3⟩ := h.le m hr
        exact h.put ha List.filter_sublist (fun r hr => getRow_none hg r (delRow_mem hr)) ⟨q2, q3⟩
      | none =>
        dsimp only
        exact ⟨⟨h.nodup, fun r hr => by obtain ⟨q1, q2, q3⟩ := h.le r hr; exact ⟨q1, by lia, by lia⟩, Nat.le_succ_of_le h.len⟩, h.pos⟩

theorem first_at {M : Int} : ∀ {ns : List Int}, M ∈ ns → ∃ j : Nat, ns[j]? = some M ∧ ∀ m < j, ns[m]? ≠ some M
  | a :: r, h => by
    by_cases e : a = M
    · subst e; exact ⟨0, rfl, fun m hm => by lia⟩
    · have h : M ∈ r := by
        rcases List.mem_cons.mp h with q | q
        · exact absurd q.symm e
        · exact q
      obtain ⟨j, h1, h2⟩ := first_at h
      refine ⟨j + 1, by simpa using h1, fun m hm => ?_⟩
      cases m with
      | zero => simpa using e
      | succ m => simpa using h2 m (by lia)
theorem sp_cs (f b : Nat) : ∀ c ∈ sp f ++ 9 :: sp b, c = 32 ∨ c = 9 := fun c h => by
  unfold sp at h
  rcases List.mem_append.mp h with h | h
  · exact .inl (List.eq_of_mem_replicate h)
  · rcases List.mem_cons.mp h with h | h
    · exact .inr h
    · exact .inl (List.eq_of_mem_replicate h)
noncomputable abbrev sgTaken (room : Nat) (x : Addr) : Sg := [("room", .int (room : Int)), ("table", .ref x)]
section
variable {w : World} {base : Heap} {prog : Program} {n : Nat} {μ : Mu}
noncomputable abbrev invTaken (asked : List Ask) (room : Nat) (x l : Addr) (μ : Mu) : List Ask → Sg → Mu → Prop := fun rest σ μ₁ => ∃ (rows : List Row) (k : Nat), RowsT k rows ∧ k + rest.length = asked.length ∧ rest.foldl (stepT room) rows = takenOver asked room ∧ Tbl μ₁ x l rows ∧ Same μ μ₁ ∧ (∀ a ∈ rest, okAsk a) ∧ σ = sgTaken room x
noncomputable abbrev invSizes (rows : List Row) (D₂ x l : Addr) (μ : Mu) : List Row → List MV → Sg → Mu → Prop := fun rest' acc σ μ₂ => ∃ done : List Row, rows = done ++ rest' ∧ acc = done.map (fun r => MV.int ((sizeR r + 1 : Nat) : Int)) ∧ μ₂ D₂ = some (.list (rows.map fun r => .str (txt r.2.1 r.2.2))) ∧ Same μ μ₂ ∧ Tbl μ₂ x l rows ∧ σ = ([] : Sg)
noncomputable abbrev postTaken (asked : List Ask) (room : Nat) (μ : Mu) : MV → Mu → Prop := fun v μ' => ∃ x l, v = .ref x ∧ Tbl μ' x l (takenOver asked room) ∧ Same μ μ' ∧ μ x = none ∧ μ l = none
theorem fn_taken (W : WF w (frag.heap_1 w.params) base) {la : Addr} {asked : List Ask} {room : Nat} (hla : μ la = some (.list (asked.map askMV))) (hk : asked.length ≤ 50) (ha : ∀ a ∈ asked, okAsk a) :
    FnC prog w base (n + 1 + 1 + 1 + 1) (.ref 281) [.ref la, .int room] [] μ (postTaken asked room μ) := by
  refine FnC.def_ (σ₀ := [("asked", .ref la), ("room", .int room)]) W ⟨_, _, _, rfl, ?hc, rfl, rfl, rfl, rfl, rfl, rfl, rfl⟩ (FnC.pos2 fun zz zz => rfl) ?hn (by kernel_rfl) ?_
  case hc => kernel_rfl
  case hn => (show List.Nodup [("asked" : Str), "room"]; decide +kernel)
  dsimp only
  repeat sizeOf_list_dec
  refine Ev.call_name W (by kernel_rfl) (g_Headers _) (keep_H _) ?_
  repeat sizeOf_list_dec
  refine (fn_Headers W).mono ?_
  rintro _ μ₀ ⟨x, l, rfl, T₀, S₀, nx, nl⟩
  repeat sizeOf_list_dec
  refine Ex.for_ ?_
  refine Itb.list ?_
  repeat sizeOf_list_dec
  refine ListP.intro (S₀ _ _ hla) ?_
  refine Loop.ind askMV (invTaken asked room x l μ)
    ?_ ?_ asked _ _ ⟨[], 0, ⟨⟨by simp, (fun r h => by cases h), by simp⟩, (fun r h => by cases h)⟩, by simp, rfl, T₀, S₀, ha, rfl⟩ _ (.cons (by array_get_dec) (.cons (by array_get_dec) .nil))
  · rintro σ μ₁ ⟨rows, k, hr, hkk, hf, T, S, _, rfl⟩
    refine ⟨S _ _ hla, fun σ' hs => ?_⟩
    refine Exs.sub ?_ hs
    repeat sizeOf_list_dec
    have e : rows = takenOver asked room := hf
    dsimp only [seqP, fnP, postTaken]; rw [← e]
    exact ⟨x, l, rfl, T, S, nx, nl⟩
  · rintro a rest σ μ₁ ⟨rows, k, hr, hkk, hf, T, S, hok, rfl⟩
    obtain ⟨ai, as⟩ := hok a (.head _)
    have hok' : ∀ b ∈ rest, okAsk b := fun b hb => hok b (.tail _ hb)
    rw [List.length_cons] at hkk
    have hstep := hr.step (room := room) (hok a (.head _))
    have hfold : rest.foldl (stepT room) (stepT room rows a) = takenOver asked room := hf
    have hlen := hr.len
    obtain ⟨d, hx⟩ := T.inst
    refine ⟨S _ _ hla, Asg.tuple (Asgs.cons (Asg.name (by kernel_rfl) (Asgs.cons (Asg.name (by kernel_rfl) (Asgs.nil ?_)))))⟩
    sizeOf_list_dec
    refine Ex.assign1 ?_
    refine Ev.meth W ?_
    repeat sizeOf_list_dec
    refine MethP.intro (f := 191) (hx) (methIn_get _) (by kernel_rfl) ?_
    repeat sizeOf_list_dec
    refine Fn.eqs ((fn_get (n := n) W T ai (.inl rfl)).le (by lia)).toFn ?_
    refine Asg.name (by kernel_rfl) ?_
    cases hg : getRow rows a.1.1 with
    | some r =>
      obtain ⟨hrm, hri⟩ := getRow_some hg
      obtain ⟨q1, q2, q3⟩ := hr.le r hrm
      have hdl := delRow_lt hg
      have hp := hr.pos r hrm
      unfold valMV
      dsimp only
      repeat sizeOf_list_dec
      rw [txt_eq_tab, if_neg (by unfold sizeR at hp; simp; lia)]
      repeat sizeOf_list_dec
      rw [if_neg (by simp)]
      repeat sizeOf_list_dec
      have e : stepT room rows a = delRow rows a.1.1 ++ [((a.1.1, a.1.2), (r.2.1 + 1 - a.2, r.2.2 + a.2))] := by unfold stepT; rw [hg]; rfl
      refine Ex.assign1 ?_
      refine Ev.call_name W (by kernel_rfl) (g_grown _) (k_grown _) ?_
      repeat sizeOf_list_dec
      refine Fn.eqs ((fn_grown (n := n) W (f := r.2.1) (b := r.2.2) as (by lia) (by lia)).le (by lia)).toFn ?_
      refine Asg.item ?_
      repeat sizeOf_list_dec
      refine SetT.inst W hx (noSeq_H _) (dun_set _) ?_
      refine ((fn_set (n := n) W T ai (f := r.2.1 + 1 - a.2) (b := r.2.2 + a.2) (by lia) (by lia) (by lia)).le (by lia)).toFn.mono ?_
      rintro _ μ₃ ⟨_, T₂, S₂⟩
      repeat sizeOf_list_dec
      rw [e] at hstep hfold
      exact ⟨sgTaken room x, .cons (by array_get_dec) (.cons (by array_get_dec) .nil), _, k + 1, hstep, by lia, hfold, T₂, (S).via S₂ nl, hok', rfl⟩
    | none =>
      have hno := getRow_none hg
      have hdel : delRow rows a.1.1 = rows := delRow_none hno
      unfold valMV
      dsimp only
      repeat sizeOf_list_dec
      rw [if_pos (by simp)]
      repeat sizeOf_list_dec
      refine Ev.call_b W (by kernel_rfl) (b_none _ _ (by simp)) bb_len rfl ?_
      sizeOf_list_dec
      refine Ev.meth W ?_
      repeat sizeOf_list_dec
      refine MethP.intro (f := 196) (hx) (methIn_keys _) (by kernel_rfl) ?_
      repeat sizeOf_list_dec
      refine Fn.news ((fn_keys (n := n) W T).le (by lia)).toFn fun D hD => ?_
      have SD := Same.new (o := .list (rows.map fun r => .str (nm r.1.1 r.1.2))) hD
      have TD := T.same SD
      repeat sizeOf_list_dec
      refine Fn.len_list Mu.set_self (by rw [List.length_map]; lia) ?_
      repeat sizeOf_list_dec
      rw [List.length_map]
      by_cases q : rows.length ≤ room
      · rw [if_neg (by simp; lia)]
        repeat sizeOf_list_dec
        have e : stepT room rows a = rows ++ [((a.1.1, a.1.2), (0 + 1 - a.2, 0 + a.2))] := by unfold stepT; rw [hg]; dsimp only; rw [if_pos q]; rfl
        rw [tab_txt]
        refine Ex.assign1 ?_
        refine Ev.call_name W (by kernel_rfl) (g_grown _) (k_grown _) ?_
        repeat sizeOf_list_dec
        refine Fn.eqs ((fn_grown (n := n) W (f := 0) (b := 0) as (by lia) (by lia)).le (by lia)).toFn ?_
        refine Asg.item ?_
        repeat sizeOf_list_dec
        refine SetT.inst W (SD _ _ hx) (noSeq_H _) (dun_set _) ?_
        refine ((fn_set (n := n) W TD ai (f := 0 + 1 - a.2) (b := 0 + a.2) (by lia) (by lia) (by rw [hdel]; lia)).le (by lia)).toFn.mono ?_
        rw [hdel]
        rintro _ μ₃ ⟨_, T₂, S₂⟩
        repeat sizeOf_list_dec
        rw [e] at hstep hfold
        exact ⟨sgTaken room x, .cons (by array_get_dec) (.cons (by array_get_dec) .nil), _, k + 1, hstep, by lia, hfold, T₂, (S.trans SD).via S₂ nl, hok', rfl⟩
      · rw [if_pos (by simp; lia)]
        repeat sizeOf_list_dec
        refine Ex.assign_listcomp (by kernel_rfl) (by kernel_rfl) (by kernel_rfl) ?_
        refine Itb.list ?_
        refine Ev.meth W ?_
        repeat sizeOf_list_dec
        refine MethP.intro (f := 201) (SD _ _ hx) (methIn_values _) (by kernel_rfl) ?_
        repeat sizeOf_list_dec
        refine Fn.news ((fn_values (n := n) W TD).le (by lia)).toFn fun D₂ hD₂ => ?_
        have SD₂ := Same.new (o := .list (rows.map fun r => .str (txt r.2.1 r.2.2))) hD₂
        have S₂ := (S.trans SD).trans SD₂
        have T₂ := TD.same SD₂
        refine ListP.intro (Mu.set_self) ?_
        refine CLoop.ind (fun r : Row => MV.str (txt r.2.1 r.2.2)) (invSizes rows D₂ x l μ) ?_ ?_ rows _ _ _ ⟨[], rfl, rfl, Mu.set_self, S₂, T₂, rfl⟩ _ .nil
        · rintro acc σ μ₂ ⟨done, hd, rfl, hl, S₃, T₃, rfl⟩
          rw [List.append_nil] at hd
          subst hd
          refine ⟨hl, fun D₃ hD₃ => ?_⟩
          have SD₃ := Same.new (o := .list (rows.map (fun r => MV.int ((sizeR r + 1 : Nat) : Int)))) hD₃
          have T₄ := T₃.same SD₃
          obtain ⟨d₄, hx₄⟩ := T₄.inst
          obtain ⟨dd, hx₃⟩ := T₃.inst
          generalize hμ : μ₂.set D₃ (.list (rows.map (fun r => MV.int ((sizeR r + 1 : Nat) : Int)))) = μ₄ at SD₃ T₄ hx₄ ⊢
          have hl₄ : μ₄ D₃ = some (.list ((rows.map fun r => ((sizeR r + 1 : Nat) : Int)).map .int)) := by rw [← hμ, Mu.set_self, List.map_map]; rfl
          sizeOf_list_dec
          refine Ex.assign1 ?_
          refine Ev.item ?_ (fun zz zz => ⟨_, rfl⟩)
          refine Ev.meth W ?_
          repeat sizeOf_list_dec
          refine MethP.intro (f := 208) (hx₄) (methIn_items _) (by kernel_rfl) ?_
          repeat sizeOf_list_dec
          refine Fn.news ((fn_items (n := n) W T₄).le (by lia)).toFn fun D₅ hD₅ => ?_
          have SD₅ := Same.new (o := .list (rows.map rowMV)) hD₅
          have T₅ := T₄.same SD₅
          refine Ev.meth_b ?_
          repeat sizeOf_list_dec
          refine MethB.intro (BM.list (SD₅ _ _ hl₄) PySem.F.slot_list_index PySem.F.type_list_index) ?_
          repeat sizeOf_list_dec
          refine Ev.call_b W (by kernel_rfl) (b_none _ _ (by simp)) bb_min rfl ?_
          repeat sizeOf_list_dec
          refine Fn.min_list (SD₅ _ _ hl₄) (by rw [List.length_map]; lia) fun M hM hmin => ?_
          repeat sizeOf_list_dec
          obtain ⟨j, hj, hjno⟩ := first_at hM
          refine Fn.index_ints (SD₅ _ _ hl₄) hj hjno (by rw [List.length_map]; lia) ?_
          rw [List.getElem?_map] at hj
          obtain ⟨m, hmj, hm⟩ := Option.map_eq_some_iff.mp hj
          have hjl : j < rows.length := by rcases Nat.lt_or_ge j rows.length with q | q; exact q; rw [List.getElem?_eq_none_iff.mpr q] at hmj; cases hmj
          refine ItemT.list Mu.set_self (by lia) (by lia) (m := rowMV m) (by rw [Int.toNat_natCast, List.getElem?_map, hmj]; rfl) ?_
          have hmin' : ∀ r ∈ rows, sizeR m ≤ sizeR r := fun r hr => by
            have := hmin _ (List.mem_map.mpr ⟨r, hr, rfl⟩)
            rw [← hm] at this; lia
          have hlm : least rows = some m := least_at hmj hmin' fun i hi r hri => by
            have := hjno i hi
            rw [List.getElem?_map, hri, Option.map_some, ← hm] at this
            intro q; rw [q] at this; exact this rfl
          have hmem := (least_some hlm).1
          obtain ⟨q1, q2, q3⟩ := hr.le m hmem
          obtain ⟨dd₅, hx₅⟩ := T₅.inst
          refine Asg.tuple (Asgs.cons (Asg.name (by kernel_rfl) (Asgs.cons (Asg.name (by kernel_rfl) (Asgs.nil ?_)))))
          sizeOf_list_dec
          refine Ex.del_inst W ?_
          repeat sizeOf_list_dec
          refine ⟨_, _, _, _, 162, rfl, hx₅, noSeq_H _, dun_del _, ?_⟩
          refine ((fn_del (n := n) W T₅ q1).le (by lia)).toFn.mono ?_
          rintro _ μ₆ ⟨_, T₆, S₆⟩
          obtain ⟨d₆, hx₆⟩ := T₆.inst
          have hdl := delRow_len rows m.1.1
          have hdel₂ : delRow (delRow rows m.1.1) a.1.1 = delRow rows m.1.1 := delRow_none fun r hr => hno r (delRow_mem hr)
          repeat sizeOf_list_dec
          have e : stepT room rows a = delRow rows m.1.1 ++ [((a.1.1, a.1.2), (m.2.1 + 1 - a.2, m.2.2 + a.2))] := by unfold stepT; rw [hg]; dsimp only; rw [if_neg q, hlm]; rfl
          refine Ex.assign1 ?_
          refine Ev.call_name W (by kernel_rfl) (g_grown _) (k_grown _) ?_
          repeat sizeOf_list_dec
          refine Fn.eqs ((fn_grown (n := n) W (f := m.2.1) (b := m.2.2) as (by lia) (by lia)).le (by lia)).toFn ?_
          refine Asg.item ?_
          repeat sizeOf_list_dec
          refine SetT.inst W hx₆ (noSeq_H _) (dun_set _) ?_
          refine ((fn_set (n := n) W T₆ ai (f := m.2.1 + 1 - a.2) (b := m.2.2 + a.2) (by lia) (by lia) (by rw [hdel₂]; lia)).le (by lia)).toFn.mono ?_
          rw [hdel₂]
          rintro _ μ₇ ⟨_, T₇, S₇⟩
          repeat sizeOf_list_dec
          rw [e] at hstep hfold
          exact ⟨sgTaken room x, .cons (by array_get_dec) (.cons (by array_get_dec) .nil), _, k + 1, hstep, by lia, hfold, T₇, (((S₃.trans SD₃).trans SD₅).via S₆ nl).via S₇ nl, hok', rfl⟩
        · rintro r rest' acc σ μ₂ ⟨done, hd, rfl, hl, S₃, T₃, rfl⟩
          have hlm := T₃.len
          obtain ⟨q1, q2, q3⟩ := hr.le r (by rw [hd]; simp)
          refine ⟨hl, by rw [List.length_map]; rw [hd, List.length_append] at hlm; lia, Asg.name (by kernel_rfl) ?_⟩
          refine Tests.nil_ ?_
          rw [if_pos rfl]
          refine Ev.field W ?_
          refine Ev.call_name W (by kernel_rfl) (g_White _) (keep_W _) ?_
          repeat sizeOf_list_dec
          have ht : txt r.2.1 r.2.2 = lst (sp r.2.1 ++ 9 :: sp r.2.2) := rfl
          have hlen2 : (sp r.2.1 ++ 9 :: sp r.2.2).length = sizeR r + 1 := by rw [List.length_append, List.length_cons, sp_len, sp_len]; unfold sizeR; lia
          rw [ht]
          refine ((fn_White (n := n) W (cs := sp r.2.1 ++ 9 :: sp r.2.2) (sp_cs _ _) (by rw [hlen2]; unfold sizeR; lia)).le (by lia)).mono ?_
          rintro _ μ₃ ⟨y, rfl, Y, S₄, ny⟩
          obtain ⟨dy, cs, hy, hcs, hz⟩ := Y.inst
          refine FieldP.intro (hy) (fieldIn_W _ _ (by simp)) (wsF_look cs).1 rfl ⟨[], .nil, done ++ [r], by rw [hd]; simp, ?_, S₄ _ _ hl, S₃.trans S₄, T₃.same S₄, rfl⟩
          rw [hcs, (ws_bound _).2.1, hlen2, List.map_append]; rfl
end
noncomputable def rowP (r : Row) : MV := .tup [.str (nm r.1.1 r.1.2), .int (r.2.1 : Int), .int (r.2.2 : Int)]
noncomputable def rowD (r : Row) : PyData := .tuple [.str (nm r.1.1 r.1.2), .int (r.2.1 : Int), .int (r.2.2 : Int)]
theorem PD_rowP (μ : Mu) (r : Row) : PD μ (rowP r) (rowD r) := .tup (.cons (.str _) (.cons (.int _) (.cons (.int _) .nil)))
theorem PDL_rowP (μ : Mu) : ∀ l : List Row, PDL μ (l.map rowP) (l.map rowD)
  | [] => .nil
  | a :: r => .cons (PD_rowP μ a) (PDL_rowP μ r)
theorem nm_ok : ∀ i < 5, ∀ u, PyData.canLay0 (.str (nm i u)) = true := by decide +kernel
theorem rowD_lay {r : Row} (h : r.1.1 < 5) : PyData.canLay0 (rowD r) = true := by
  show (PyData.canLay0 (.str (nm r.1.1 r.1.2)) && (true && (true && true))) = true
  rw [nm_ok _ h]; rfl
theorem rowD_ok {r : Row} (h : r.1.1 < 5) : SeqAt.shaped (rowD r) = true := by
  unfold SeqAt.shaped; rw [rowD_lay h]; rfl
theorem rowsD_lay : ∀ l : List Row, (∀ r ∈ l, r.1.1 < 5) → PyData.canLayAll0 (l.map rowD) = true ∧ PyData.depthAll (l.map rowD) ≤ 1
  | [], _ => ⟨rfl, Nat.zero_le _⟩
  | a :: r, h => by
    obtain ⟨h1, h2⟩ := rowsD_lay r fun q hq => h q (.tail _ hq)
    constructor
    · show (PyData.canLay0 (rowD a) && PyData.canLayAll0 (r.map rowD)) = true; rw [h1, rowD_lay (h a (.head _))]; rfl
    · show max 1 (PyData.depthAll (r.map rowD)) ≤ 1; lia
theorem rowsD_ok (l : List Row) (h : ∀ r ∈ l, r.1.1 < 5) : SeqAt.shaped (.list (l.map rowD)) = true := by
  obtain ⟨h1, h2⟩ := rowsD_lay l h
  unfold SeqAt.shaped
  show ((PyData.canLayAll0 (l.map rowD)) && decide (PyData.depthAll (l.map rowD) + 1 ≤ 64)) = true
  rw [h1, Bool.true_and]; exact decide_eq_true (by lia)
theorem rowD_self (r : Row) : PyData.eqv (rowD r) (rowD r) = true := by
  show ((nm r.1.1 r.1.2 == nm r.1.1 r.1.2) && (((r.2.1 : Int) == (r.2.1 : Int)) && (((r.2.2 : Int) == (r.2.2 : Int)) && true))) = true
  simp
theorem rowD_ne {r q : Row} (hr : r.1.1 < 5) (hq : q.1.1 < 5) (h : r.1.1 ≠ q.1.1) : PyData.eqv (rowD r) (rowD q) = false := by
  show ((nm r.1.1 r.1.2 == nm q.1.1 q.1.2) && (((r.2.1 : Int) == (q.2.1 : Int)) && (((r.2.2 : Int) == (q.2.2 : Int)) && true))) = false
  have : (nm r.1.1 r.1.2 == nm q.1.1 q.1.2) = false := beq_eq_false_iff_ne.mpr fun e => h (nm_inj hr hq e).1
  rw [this]; rfl
noncomputable def oldR (rows : List Row) (i : Nat) : List Row := rows.filter fun r => r.1.1 == i
theorem oldR_snoc (d : List Row) (r : Row) (i : Nat) : oldR (d ++ [r]) i = oldR d i ++ (if (r.1.1 == i) = true then [r] else []) := by
  unfold oldR; rw [List.filter_append, List.filter_cons, List.filter_nil]
theorem old_any {rows : List Row} {i : Nat} (h5 : ∀ r ∈ rows, r.1.1 < 5) (r : Row) (hr : r ∈ rows) : (((oldR rows i).map rowD).any fun y => PyData.eqv y (rowD r)) = (r.1.1 == i) := by
  by_cases e : r.1.1 = i
  · rw [show (r.1.1 == i) = true by simpa using e]
    exact List.any_eq_true.mpr ⟨rowD r, List.mem_map.mpr ⟨r, List.mem_filter.mpr ⟨hr, by simpa using e⟩, rfl⟩, rowD_self r⟩
  · rw [show (r.1.1 == i) = false by simpa using e]
    refine List.any_eq_false.mpr fun y hy => ?_
    obtain ⟨q, hq, rfl⟩ := List.mem_map.mp hy
    obtain ⟨hq, hi⟩ := List.mem_filter.mp hq
    have hi : q.1.1 = i := by simpa using hi
    rw [rowD_ne (h5 q hq) (h5 r hr) (by lia)]; simp
theorem old_get {rows : List Row} {i : Nat} : (oldR rows i).head? = getRow rows i := by unfold oldR getRow; rw [List.head?_filter]
theorem RowsT.stepS {k room : Nat} {rows : List Row} {t : Nat} {a : Ask} (h : RowsT k rows) (ha : okAsk a) : RowsT (k + 1) (stepS room (rows, t) a).1 := by
  refine ⟨h.toRows.step ha, fun r hr => ?_⟩
  unfold Mine.stepS at hr
  dsimp only at hr
  cases hg : getRow rows a.1.1 with
  | some q =>
    rw [hg] at hr
    rcases List.mem_append.mp hr with hr | hr
    · exact h.pos r (delRow_mem hr)
    · cases List.mem_singleton.mp hr
      obtain ⟨ha1, ha2⟩ := ha
      unfold sizeR grow; show 1 ≤ q.2.1 + 1 - a.2 + (q.2.2 + a.2); lia
  | none =>
    rw [hg] at hr
    dsimp only at hr
    split at hr
    · rcases List.mem_append.mp hr with hr | hr
      · exact h.pos r hr
      · cases List.mem_singleton.mp hr
        obtain ⟨ha1, ha2⟩ := ha
        unfold sizeR grow; show 1 ≤ 0 + 1 - a.2 + (0 + a.2); lia
    · obtain ⟨q, hq, hs⟩ := strike_mem hr
      unfold strike1 at hs
      split at hs
      · cases hs
      · cases hs; unfold sizeR; dsimp only; lia

theorem stepS_len {room : Nat} {rows : List Row} {t : Nat} {a : Ask} (h : rows.length ≤ room) : (stepS room (rows, t) a).1.length ≤ room := by
  unfold stepS
  dsimp only
  cases hg : getRow rows a.1.1 with
  | some q => have := delRow_lt hg; rw [List.length_append]; simp; lia
  | none =>
    dsimp only
    split
    · rw [List.length_append]; simp; lia
    · exact Nat.le_trans (List.length_filterMap_le ..) h
theorem old_nil {rows : List Row} {i : Nat} (h : getRow rows i = none) : oldR rows i = [] := by
  rw [← old_get] at h; exact List.head?_eq_none_iff.mp h
theorem old_cons {rows : List Row} {i : Nat} {r : Row} (h : getRow rows i = some r) : ∃ l, oldR rows i = r :: l := by
  rw [← old_get] at h; exact ⟨_, (List.head?_eq_some_iff.mp h).choose_spec⟩
theorem eqv_nil (l : List Row) : PyData.eqv (.list (l.map rowD)) (.list []) = l.isEmpty := by cases l <;> rfl
noncomputable def strike0 (r : Row) : Row := if 0 < r.2.1 then (r.1, (r.2.1 - 1, r.2.2)) else (r.1, (0, r.2.2 - 1))
theorem strike01 : ∀ {rows : List Row}, (∀ r ∈ rows, 1 ≤ sizeR r) → (rows.map strike0).filter (fun r => decide (0 < sizeR r)) = rows.filterMap strike1
  | [], _ => rfl
  | r :: l, h => by
    have h1 := h r (.head _)
    have ih := strike01 fun q hq => h q (.tail _ hq)
    rw [List.map_cons, List.filter_cons, List.filterMap_cons, ih]
    unfold sizeR at h1
    have e : strike0 r = (r.1, (r.2.1 - 1, r.2.2 - (1 - r.2.1))) := by
      unfold strike0; split
      · rw [show 1 - r.2.1 = 0 by lia]; rfl
      · rw [show r.2.1 - 1 = 0 by lia, show 1 - r.2.1 = 1 by lia]
    rw [e]
    unfold strike1 sizeR
    by_cases q : r.2.1 - 1 + (r.2.2 - (1 - r.2.1)) = 0
    · rw [if_pos q, if_neg (by simp; lia)]
    · rw [if_neg q, if_pos (by simp; lia)]
theorem Same.none {μ μ' : Mu} {D : Addr} (h : Same μ μ') (e : μ' D = none) : μ D = none := by
  cases q : μ D with
  | none => rfl
  | some o => rw [h _ _ q] at e; cases e
noncomputable abbrev sgPlain (room : Nat) (L : Addr) (t : Nat) : Sg := [("room", .int (room : Int)), ("rows", .ref L), ("strikes", .int (t : Int))]
section
variable {w : World} {base : Heap} {prog : Program} {n : Nat} {μ : Mu}
theorem Ex.assign_cellcomp {sc : Scope} {σ : Sg} {elt gens scope cpos x p pos} {post : MF → Sg → Mu → Prop} (hx : own sc x = true) (hn : (sc.names.lookup x == some .local) = false)
    (h : Ev prog w base n sc (.ListComp elt gens scope cpos) σ μ (fun v μ₁ => post .next (put x v σ) μ₁)) : Ex prog w base n sc (.Assign [.Name x p] (.ListComp elt gens scope cpos) pos) σ μ post := by
  intro A env s R G H F
  refine wpAny_Assign_Name ((h A env s R G H F).then_ fun mv μ₁ v s₁ p₁ d₁ i₁ => ?_) (swaps_cell G hn)
  exact store G d₁.hr (F.keep H d₁.ext) i₁ (own_or (lo := false) G hx) fun s' d F' => ⟨_, _, _, p₁, d₁.toF.trans d, F', .next⟩
noncomputable abbrev invPlain (asked : List Ask) (room : Nat) (μ : Mu) : List Ask → Sg → Mu → Prop := fun rest σ μ₁ => ∃ (rows : List Row) (t k : Nat) (L : Addr), RowsT k rows ∧ rows.length ≤ room ∧ t ≤ k ∧ k + rest.length = asked.length ∧ rest.foldl (Mine.stepS room) (rows, t) = struck asked room ∧ μ₁ L = some (.list (rows.map rowP)) ∧ μ L = none ∧ Same μ μ₁ ∧ (∀ a ∈ rest, okAsk a) ∧ σ = sgPlain room L t
noncomputable abbrev postPlain (asked : List Ask) (room : Nat) (μ : Mu) : MV → Mu → Prop := fun v μ' => ∃ L, v = .tup [.ref L, .int ((struck asked room).2 : Nat)] ∧ μ' L = some (.list ((struck asked room).1.map rowP)) ∧ Same μ μ' ∧ μ L = none
theorem fn_plain (W : WF w (frag.heap_1 w.params) base) {la : Addr} {asked : List Ask} {room : Nat} (hla : μ la = some (.list (asked.map askMV))) (hk : asked.length ≤ 50) (ha : ∀ a ∈ asked, okAsk a) :
    FnC prog w base (n + 1) (.ref 286) [.ref la, .int room] [] μ (postPlain asked room μ) := by
  refine FnC.def_ (σ₀ := [("asked", .ref la), ("room", .int room)]) W ⟨_, _, _, rfl, ?hc, rfl, rfl, rfl, rfl, rfl, rfl, rfl⟩ (FnC.pos2 fun zz zz => rfl) ?hn (by kernel_rfl) ?_
  case hc => kernel_rfl
  case hn => (show List.Nodup [("asked" : Str), "room"]; decide +kernel)
  dsimp only
  sizeOf_list_dec
  refine Ex.assign_pair (by kernel_rfl) (by kernel_rfl) ?_ ?_
  · repeat sizeOf_list_dec
    refine ⟨by decide, fun L hL => ?_⟩
    repeat sizeOf_list_dec
    refine ⟨_, _, rfl, ?_⟩
    show Exs _ _ _ _ _ _ _ _ _
    have S₀ := Same.new (o := .list []) hL
    sizeOf_list_dec
    refine Ex.for_ ?_
    refine Itb.list ?_
    repeat sizeOf_list_dec
    refine ListP.intro (S₀ _ _ hla) ?_
    refine Loop.ind askMV (invPlain asked room μ)
      ?_ ?_ asked _ _ ⟨[], 0, 0, L, ⟨⟨by simp, (fun r h => by cases h), by simp⟩, (fun r h => by cases h)⟩, Nat.zero_le _, Nat.le_refl _, by simp, rfl, Mu.set_self, hL, S₀, ha, rfl⟩ _ (.cons (by array_get_dec) (.cons (by array_get_dec) (.cons (look_eq (by array_get_dec) (int_eq (a := 0) (by rfl))) .nil)))
    · rintro σ μ₁ ⟨rows, t, k, L, hr, hroom, ht, hkk, hf, hl, nL, S, _, rfl⟩
      refine ⟨S _ _ hla, fun σ' hs => ?_⟩
      refine Exs.sub ?_ hs
      repeat sizeOf_list_dec
      refine ⟨by simp, ?_⟩
      have e : (rows, t) = struck asked room := hf
      dsimp only [seqP, fnP, postPlain]; rw [← e]
      exact ⟨L, rfl, hl, S, nL⟩
    · rintro a rest σ μ₁ ⟨rows, t, k, L, hr, hroom, ht, hkk, hf, hl, nL, S, hok, rfl⟩
      obtain ⟨ai, as⟩ := hok a (.head _)
      have hok' : ∀ b ∈ rest, okAsk b := fun b hb => hok b (.tail _ hb)
      rw [List.length_cons] at hkk
      have hstep := hr.stepS (room := room) (t := t) (hok a (.head _))
      have hfold : rest.foldl (Mine.stepS room) (Mine.stepS room (rows, t) a) = struck asked room := hf
      have hsl := stepS_len (t := t) (a := a) hroom
      have hlen := hr.len
      have h5 : ∀ r ∈ rows, r.1.1 < 5 := fun r h => (hr.le r h).1
      refine ⟨S _ _ hla, Asg.tuple (Asgs.cons (Asg.name (by kernel_rfl) (Asgs.cons (Asg.name (by kernel_rfl) (Asgs.nil ?_)))))⟩
      sizeOf_list_dec
      refine Ex.assign_cellcomp (by kernel_rfl) (by kernel_rfl) ?_
      refine Ev.listcomp (by kernel_rfl) ?_
      refine Itb.list ?_
      repeat sizeOf_list_dec
      refine ListP.intro (hl) ?_
      refine CLoop.pure rowP (fun d => (oldR d a.1.1).map rowP) rows [("name", .str (nm a.1.1 a.1.2))] rfl ?_ ?_ (.cons (by kernel_rfl) .nil)
      · refine ⟨hl, fun D hD => ?_⟩
        have SD := Same.new (o := .list ((oldR rows a.1.1).map rowP)) hD
        have nLD : D ≠ L := fun q => by rw [q, hl] at hD; cases hD
        have ho5 : ∀ r ∈ oldR rows a.1.1, r.1.1 < 5 := fun r hr => h5 r (List.mem_filter.mp hr).1
        show Exs _ _ _ _ _ _ _ _ _
        repeat sizeOf_list_dec
        refine ⟨by decide, fun E hE => ?_⟩
        have SE := Same.new (o := .list []) hE
        refine Op.eq_data (.list (SE _ _ Mu.set_self) (PDL_rowP _ _)) (.list Mu.set_self .nil) (rowsD_ok _ ho5) rfl ?_
        rw [eqv_nil]
        repeat sizeOf_list_dec
        have S₂ := (S.trans SD).trans SE
        have hl₂ := (SD.trans SE) _ _ hl
        have hD₂ := SE _ _ (Mu.set_self (a := D) (o := .list ((oldR rows a.1.1).map rowP)))
        generalize (_ : Mu).set E (.list []) = μ₃ at S₂ hl₂ hD₂ ⊢
        cases hg : getRow rows a.1.1 with
        | none =>
          have hon := old_nil hg
          have hon' : (oldR rows a.1.1).isEmpty = true := by rw [hon]; rfl
          rw [if_pos hon']
          repeat sizeOf_list_dec
          refine Ev.call_b W (by kernel_rfl) (b_none _ _ (by simp)) bb_len rfl ?_
          repeat sizeOf_list_dec
          refine Fn.len_list hl₂ (by rw [List.length_map]; lia) ?_
          repeat sizeOf_list_dec
          rw [List.length_map]
          by_cases q : rows.length = room
          · rw [if_pos (by simp [q])]
            repeat sizeOf_list_dec
            refine Ex.assign_listcomp (by kernel_rfl) (by kernel_rfl) (by kernel_rfl) ?_
            refine Itb.list ?_
            repeat sizeOf_list_dec
            refine ListP.intro (hl₂) ?_
            refine CLoop.pure rowP (fun d => d.map (fun r => rowP (strike0 r))) rows [] rfl ?_ ?_ .nil
            · refine ⟨hl₂, fun D₄ hD₄ => ?_⟩
              have S₄ := S₂.trans (Same.new (o := .list (rows.map fun r => rowP (strike0 r))) hD₄)
              show Exs _ _ _ _ _ _ _ _ _
              sizeOf_list_dec
              refine Ex.assign_listcomp (by kernel_rfl) (by kernel_rfl) (by kernel_rfl) ?_
              refine Itb.list ?_
              repeat sizeOf_list_dec
              refine ListP.intro (Mu.set_self) ?_
              refine CLoop.pure (fun r => rowP (strike0 r)) (fun d => ((d.map strike0).filter fun r => decide (0 < sizeR r)).map rowP) rows [] rfl ?_ ?_ .nil
              · refine ⟨Mu.set_self, fun D₅ hD₅ => ?_⟩
                simp only [strike01 hr.pos] at *
                have S₅ := S₄.trans (Same.new (o := .list ((rows.filterMap strike1).map rowP)) hD₅)
                show Exs _ _ _ _ _ _ _ _ _
                repeat sizeOf_list_dec
                have e : Mine.stepS room (rows, t) a = (rows.filterMap strike1, t + 1) := by unfold Mine.stepS; dsimp only; rw [hg]; dsimp only; rw [if_neg (by lia)]
                rw [e] at hstep hfold hsl
                exact ⟨sgPlain room D₅ (t + 1), .cons (by array_get_dec) (.cons (by array_get_dec) (.cons (look_eq (by array_get_dec) (int_eq (by lia))) .nil)), _, t + 1, k + 1, D₅, hstep, hsl, by lia, by lia, hfold, Mu.set_self, S₄.none hD₅, S₅, hok', rfl⟩
              · intro r done rest' hd
                have hdl := congrArg List.length hd
                rw [List.length_append, List.length_cons] at hdl
                refine ⟨Mu.set_self, by rw [List.length_map]; exact Nat.le_trans (List.length_filter_le ..) (by rw [List.length_map]; lia), Asg.name (by kernel_rfl) ?_⟩
                show Tr _ _ _ _ _ _ _ _ _
                repeat sizeOf_list_dec
                refine ItemT.tup (by decide) (by decide) rfl ?_
                repeat sizeOf_list_dec
                refine ItemT.tup (by decide) (by decide) rfl ?_
                repeat sizeOf_list_dec
                by_cases q : 0 < sizeR (strike0 r)
                · rw [decide_eq_true (by unfold sizeR at q; lia)]
                  repeat sizeOf_list_dec
                  refine ⟨rfl, .nil, ?_⟩
                  dsimp only
                  rw [List.map_append, List.filter_append, List.map_append, List.map_cons, List.map_nil, List.filter_cons, if_pos (by simpa using q)]; rfl
                · rw [decide_eq_false (by unfold sizeR at q; lia)]
                  refine ⟨rfl, .nil, ?_⟩
                  dsimp only
                  rw [List.map_append, List.filter_append, List.map_append, List.map_cons, List.map_nil, List.filter_cons, if_neg (by simpa using q)]; simp
            · intro r done rest' hd
              have hdl := congrArg List.length hd
              rw [List.length_append, List.length_cons] at hdl
              refine ⟨hl₂, by rw [List.length_map]; lia, Asg.tuple (Asgs.cons (Asg.name (by kernel_rfl) (Asgs.cons (Asg.name (by kernel_rfl) (Asgs.cons (Asg.name (by kernel_rfl) (Asgs.nil ?_)))))))⟩
              refine Tests.nil_ ?_
              have hrp := hr.pos r (by rw [hd]; simp)
              unfold sizeR at hrp
              repeat sizeOf_list_dec
              by_cases q0 : 0 < r.2.1
              · rw [if_pos (by simpa using q0)]
                repeat sizeOf_list_dec
                refine ⟨by simp, rfl, .nil, ?_⟩
                dsimp only
                have e : strike0 r = (r.1, (r.2.1 - 1, r.2.2)) := by unfold strike0; rw [if_pos q0]
                have e2 : ((r.2.1 : Int) - 1) = ((r.2.1 - 1 : Nat) : Int) := by lia
                rw [List.map_append, List.map_cons, List.map_nil, e, e2]; rfl
              · rw [if_neg (by simpa using q0)]
                repeat sizeOf_list_dec
                refine ⟨by simp, rfl, .nil, ?_⟩
                dsimp only
                have e : strike0 r = (r.1, (0, r.2.2 - 1)) := by unfold strike0; rw [if_neg q0]
                have e2 : ((r.2.2 : Int) - 1) = ((r.2.2 - 1 : Nat) : Int) := by lia
                rw [List.map_append, List.map_cons, List.map_nil, e, e2]; rfl
          · rw [if_neg (by simp; lia)]
            repeat sizeOf_list_dec
            refine Ex.assign1 ?_
            refine Ev.ifexp ?_
            repeat sizeOf_list_dec
            refine ⟨by decide, fun F hF => ?_⟩
            have SF := Same.new (o := .list []) hF
            refine Op.ne_data (.list (SF _ _ hD₂) (PDL_rowP _ _)) (.list Mu.set_self .nil) (rowsD_ok _ ho5) rfl ?_
            rw [eqv_nil]
            repeat sizeOf_list_dec
            rw [if_neg (by rw [hon']; simp)]
            repeat sizeOf_list_dec
            refine ⟨by decide, Asg.tuple (Asgs.cons (Asg.name (by kernel_rfl) (Asgs.cons (Asg.name (by kernel_rfl) (Asgs.nil ?_)))))⟩
            repeat sizeOf_list_dec
            refine Ev.listcomp (by kernel_rfl) ?_
            refine Itb.list ?_
            repeat sizeOf_list_dec
            refine ListP.intro (SF _ _ hl₂) ?_
            refine CLoop.pure rowP (fun d => (delRow d a.1.1).map rowP) rows [("old", .ref D)] rfl ?_ ?_ (.cons (by kernel_rfl) .nil)
            · refine ⟨SF _ _ hl₂, fun D₆ hD₆ => ?_⟩
              have S₆ := (S₂.trans SF).trans (Same.new (o := .list ((delRow rows a.1.1).map rowP)) hD₆)
              repeat sizeOf_list_dec
              refine ⟨by simp, ?_⟩
              repeat sizeOf_list_dec
              refine ⟨by simp, fun D₇ hD₇ => ?_⟩
              have S₇ := S₆.trans (Same.new (o := .list [.tup [.str (nm a.1.1 a.1.2), .int (0 + 1 - (a.2 : Int)), .int (0 + (a.2 : Int))]]) hD₇)
              have n67 : D₆ ≠ D₇ := fun q => by rw [← q, Mu.set_self] at hD₇; cases hD₇
              refine Op.add_list (xs := (delRow rows a.1.1).map rowP) (by rw [Mu.set_ne n67]; exact Mu.set_self) Mu.set_self (by have := delRow_len rows a.1.1; rw [List.length_map]; lia) (by simp) fun D₈ hD₈ => ?_
              repeat sizeOf_list_dec
              have hd0 : delRow rows a.1.1 = rows := delRow_none (getRow_none hg)
              have e : Mine.stepS room (rows, t) a = (rows ++ [(a.1, grow a.2 (0, 0))], t) := by unfold Mine.stepS; dsimp only; rw [hg]; dsimp only; rw [if_pos (by lia)]
              rw [e] at hstep hfold hsl
              refine ⟨sgPlain room D₈ t, .cons (by array_get_dec) (.cons (by array_get_dec) (.cons (by array_get_dec) .nil)), _, t, k + 1, D₈, hstep, hsl, by lia, by lia, hfold, ?_, S₇.none hD₈, S₇.trans (Same.new hD₈), hok', rfl⟩
              rw [Mu.set_self, hd0, List.map_append]
              have e1 : (0 + 1 - (a.2 : Int)) = ((0 + 1 - a.2 : Nat) : Int) := by lia
              have e2 : (0 + (a.2 : Int)) = ((0 + a.2 : Nat) : Int) := by lia
              rw [e1, e2]; rfl
            · intro r done rest' hd
              have r5 : r.1.1 < 5 := h5 r (by rw [hd]; simp)
              have hdl := congrArg List.length hd
              rw [List.length_append, List.length_cons] at hdl
              have hol := delRow_len done a.1.1
              refine ⟨SF _ _ hl₂, by rw [List.length_map]; lia, Asg.name (by kernel_rfl) ?_⟩
              show Tr _ _ _ _ _ _ _ _ _
              repeat sizeOf_list_dec
              refine Op.notin_data (PD_rowP _ r) (.list (SF _ _ hD₂) (PDL_rowP _ _)) (rowD_ok r5) (rowsD_ok _ ho5) ?_
              rw [old_any h5 r (by rw [hd]; simp)]
              repeat sizeOf_list_dec
              by_cases q2 : (r.1.1 == a.1.1) = true
              · rw [q2, Bool.not_true]
                exact ⟨rfl, .cons (by array_get_dec) .nil, by dsimp only; unfold delRow; rw [List.filter_append, List.filter_cons, if_neg (by simpa using q2)]; simp⟩
              · rw [Bool.eq_false_iff.mpr q2, Bool.not_false]
                repeat sizeOf_list_dec
                exact ⟨rfl, .cons (by array_get_dec) .nil, by dsimp only; unfold delRow; rw [List.filter_append, List.filter_cons, if_pos (by simpa using q2), List.map_append]; rfl⟩
        | some r =>
          obtain ⟨ol, hoc⟩ := old_cons hg
          have hoc' : ¬ (oldR rows a.1.1).isEmpty = true := by rw [hoc]; simp
          rw [if_neg hoc']
          repeat sizeOf_list_dec
          rw [if_neg (by simp)]
          repeat sizeOf_list_dec
          refine Ex.assign1 ?_
          refine Ev.ifexp ?_
          repeat sizeOf_list_dec
          refine ⟨by decide, fun F hF => ?_⟩
          have SF := Same.new (o := .list []) hF
          refine Op.ne_data (.list (SF _ _ hD₂) (PDL_rowP _ _)) (.list Mu.set_self .nil) (rowsD_ok _ ho5) rfl ?_
          rw [eqv_nil]
          repeat sizeOf_list_dec
          rw [if_pos (by simpa using hoc')]
          repeat sizeOf_list_dec
          refine ItemT.list (m := rowP r) (SF _ _ hD₂) (by decide) (by decide) (by rw [hoc]; rfl) ?_
          repeat sizeOf_list_dec
          refine ItemT.tup (by decide) (by decide) rfl ?_
          repeat sizeOf_list_dec
          refine ItemT.list (m := rowP r) (SF _ _ hD₂) (by decide) (by decide) (by rw [hoc]; rfl) ?_
          repeat sizeOf_list_dec
          refine ItemT.tup (by decide) (by decide) rfl ?_
          repeat sizeOf_list_dec
          refine ⟨by simp, Asg.tuple (Asgs.cons (Asg.name (by kernel_rfl) (Asgs.cons (Asg.name (by kernel_rfl) (Asgs.nil ?_)))))⟩
          repeat sizeOf_list_dec
          refine Ev.listcomp (by kernel_rfl) ?_
          refine Itb.list ?_
          repeat sizeOf_list_dec
          refine ListP.intro (SF _ _ hl₂) ?_
          refine CLoop.pure rowP (fun d => (delRow d a.1.1).map rowP) rows [("old", .ref D)] rfl ?_ ?_ (.cons (by kernel_rfl) .nil)
          · refine ⟨SF _ _ hl₂, fun D₆ hD₆ => ?_⟩
            have S₆ := (S₂.trans SF).trans (Same.new (o := .list ((delRow rows a.1.1).map rowP)) hD₆)
            repeat sizeOf_list_dec
            refine ⟨by simp, ?_⟩
            repeat sizeOf_list_dec
            refine ⟨by simp, fun D₇ hD₇ => ?_⟩
            have S₇ := S₆.trans (Same.new (o := .list [.tup [.str (nm a.1.1 a.1.2), .int ((r.2.1 : Int) + 1 - (a.2 : Int)), .int ((r.2.2 : Int) + (a.2 : Int))]]) hD₇)
            have n67 : D₆ ≠ D₇ := fun q => by rw [← q, Mu.set_self] at hD₇; cases hD₇
            refine Op.add_list (xs := (delRow rows a.1.1).map rowP) (by rw [Mu.set_ne n67]; exact Mu.set_self) Mu.set_self (by have := delRow_len rows a.1.1; rw [List.length_map]; lia) (by simp) fun D₈ hD₈ => ?_
            repeat sizeOf_list_dec
            have e : Mine.stepS room (rows, t) a = (delRow rows a.1.1 ++ [(a.1, grow a.2 r.2)], t) := by unfold Mine.stepS; dsimp only; rw [hg]
            rw [e] at hstep hfold hsl
            refine ⟨sgPlain room D₈ t, .cons (by array_get_dec) (.cons (by array_get_dec) (.cons (by array_get_dec) .nil)), _, t, k + 1, D₈, hstep, hsl, by lia, by lia, hfold, ?_, S₇.none hD₈, S₇.trans (Same.new hD₈), hok', rfl⟩
            rw [Mu.set_self, List.map_append]
            have e1 : ((r.2.1 : Int) + 1 - (a.2 : Int)) = ((r.2.1 + 1 - a.2 : Nat) : Int) := by lia
            have e2 : ((r.2.2 : Int) + (a.2 : Int)) = ((r.2.2 + a.2 : Nat) : Int) := by lia
            rw [e1, e2]; rfl
          · intro r' done rest' hd
            have r5 : r'.1.1 < 5 := h5 r' (by rw [hd]; simp)
            have hdl := congrArg List.length hd
            rw [List.length_append, List.length_cons] at hdl
            have hol := delRow_len done a.1.1
            refine ⟨SF _ _ hl₂, by rw [List.length_map]; lia, Asg.name (by kernel_rfl) ?_⟩
            show Tr _ _ _ _ _ _ _ _ _
            repeat sizeOf_list_dec
            refine Op.notin_data (PD_rowP _ r') (.list (SF _ _ hD₂) (PDL_rowP _ _)) (rowD_ok r5) (rowsD_ok _ ho5) ?_
            rw [old_any h5 r' (by rw [hd]; simp)]
            repeat sizeOf_list_dec
            by_cases q2 : (r'.1.1 == a.1.1) = true
            · rw [q2, Bool.not_true]
              exact ⟨rfl, .cons (by array_get_dec) .nil, by dsimp only; unfold delRow; rw [List.filter_append, List.filter_cons, if_neg (by simpa using q2)]; simp⟩
            · rw [Bool.eq_false_iff.mpr q2, Bool.not_false]
              repeat sizeOf_list_dec
              exact ⟨rfl, .cons (by array_get_dec) .nil, by dsimp only; unfold delRow; rw [List.filter_append, List.filter_cons, if_pos (by simpa using q2), List.map_append]; rfl⟩
      · intro r done rest' hd
        have r5 : r.1.1 < 5 := h5 r (by rw [hd]; simp)
        have hdl := congrArg List.length hd
        rw [List.length_append, List.length_cons] at hdl
        have hol : (oldR done a.1.1).length ≤ done.length := List.length_filter_le ..
        refine ⟨hl, by rw [List.length_map]; lia, Asg.name (by kernel_rfl) ?_⟩
        show Tr _ _ _ _ _ _ _ _ _
        sizeOf_list_dec
        refine Ev.meth_b ?_
        repeat sizeOf_list_dec
        refine ItemT.tup (by decide) (by decide) rfl ?_
        refine MethB.intro (BM.str PySem.F.slot_str_lower PySem.F.type_str_lower) ?_
        repeat sizeOf_list_dec
        refine Fn.lower (nm_fit _ r5 _).1 ?_
        refine Ev.meth_b ?_
        repeat sizeOf_list_dec
        refine MethB.intro (BM.str PySem.F.slot_str_lower PySem.F.type_str_lower) ?_
        repeat sizeOf_list_dec
        refine Fn.lower (nm_fit _ ai _).1 ?_
        repeat sizeOf_list_dec
        rw [nm_lower _ ai, look_nm r5 ai]
        by_cases q : (r.1.1 == a.1.1) = true
        · rw [q]
          repeat sizeOf_list_dec
          exact ⟨rfl, .cons (by array_get_dec) .nil, by dsimp only; rw [oldR_snoc, if_pos q, List.map_append]; rfl⟩
        · rw [Bool.eq_false_iff.mpr q]
          exact ⟨rfl, .cons (by array_get_dec) .nil, by dsimp only; rw [oldR_snoc, if_neg q, List.append_nil]⟩
  · intro env h1 h2 h3
    unfold swappedStores
    simp only [h1, List.filterMap_cons, List.filterMap_nil, h2, h3]
    kernel_rfl
end
set_option tactic.hygienic false
/-! the plain law, in pure Lean -/
noncomputable def total (rows : List Row) : Nat := (rows.map sizeR).sum
theorem total_append (a b : List Row) : total (a ++ b) = total a + total b := by unfold total; rw [List.map_append, List.sum_append]
theorem total_cons (a : Row) (b : List Row) : total (a :: b) = sizeR a + total b := rfl
theorem total_del : ∀ {rows : List Row} {i : Nat} {r : Row}, (rows.map (·.1.1)).Nodup → getRow rows i = some r → total (delRow rows i) + sizeR r = total rows
  | [], _, _, _, h => by cases h
  | a :: l, i, r, nd, h => by
    obtain ⟨n1, n2⟩ := List.nodup_cons.mp nd
    rw [delRow_cons, total_cons]
    by_cases q : a.1.1 = i
    · have e : r = a := by
        unfold getRow at h; rw [List.find?_cons, show (a.1.1 == i) = true by simpa using q] at h; exact (Option.some.inj h).symm
      subst e
      rw [if_neg (by simpa using q), delRow_none fun x hx e => n1 (List.mem_map.mpr ⟨x, hx, by show x.1.1 = r.1.1; lia⟩)]; lia
    · have hg : getRow l i = some r := by
        unfold getRow at h ⊢; rw [List.find?_cons, show (a.1.1 == i) = false by simpa using q] at h; exact h
      have := total_del n2 hg
      rw [if_pos (by simpa using q), total_cons]; lia
theorem total_strike : ∀ {rows : List Row}, (∀ r ∈ rows, 1 ≤ sizeR r) → total (rows.filterMap strike1) + rows.length = total rows
  | [], _ => rfl
  | r :: l, h => by
    have h1 := h r (.head _)
    have ih := total_strike fun q hq => h q (.tail _ hq)
    rw [List.filterMap_cons, total_cons, List.length_cons]
    unfold strike1
    unfold sizeR at h1 ⊢
    have e1 := one_less r.2.1 r.2.2
    by_cases q : r.2.1 - 1 + (r.2.2 - (1 - r.2.1)) = 0
    · rw [if_pos q]; show total (l.filterMap strike1) + _ = _
      rw [q] at e1; clear q; lia
    · rw [if_neg q]; show total (_ :: l.filterMap strike1) + _ = _; rw [total_cons]; unfold sizeR; dsimp only
      rw [e1]; clear e1 q; lia
theorem struck_total {room : Nat} : ∀ (asked : List Ask) (rows : List Row) (t k : Nat), RowsT k rows → rows.length ≤ room → (∀ a ∈ asked, okAsk a) →
    total (asked.foldl (stepS room) (rows, t)).1 + (room + 1) * (asked.foldl (stepS room) (rows, t)).2 = total rows + (room + 1) * t + asked.length
  | [], _, _, _, _, _, _ => rfl
  | a :: l, rows, t, k, hr, hl, ho => by
    have ha := ho a (.head _)
    have hs := hr.stepS (room := room) (t := t) ha
    have hn := stepS_len (t := t) (a := a) hl
    have ih := struck_total l (stepS room (rows, t) a).1 (stepS room (rows, t) a).2 (k + 1) hs hn fun b hb => ho b (.tail _ hb)
    rw [List.foldl_cons, List.length_cons, ih]
    obtain ⟨ha1, ha2⟩ := ha
    have key : total (stepS room (rows, t) a).1 + (room + 1) * (stepS room (rows, t) a).2 = total rows + (room + 1) * t + 1 := by
      unfold stepS
      dsimp only
      cases hg : getRow rows a.1.1 with
      | some r =>
        have := total_del hr.nodup hg
        dsimp only
        rw [total_append, total_cons]
        unfold sizeR grow at *
        show total (delRow rows a.1.1) + (r.2.1 + 1 - a.2 + (r.2.2 + a.2) + 0) + _ = _
        lia
      | none =>
        dsimp only
        split
        · dsimp only
          rw [total_append, total_cons]
          unfold sizeR grow
          show total rows + (0 + 1 - a.2 + (0 + a.2) + 0) + _ = _
          lia
        · have := total_strike hr.pos
          dsimp only
          rw [Nat.mul_add]
          have : rows.length = room := by lia
          lia
    lia
theorem least_ex {rows : List Row} (h : 0 < rows.length) : ∃ m, least rows = some m := by
  have key : ∀ (l : List Row), 0 < l.length → ∃ m ∈ l, ∀ r ∈ l, sizeR m ≤ sizeR r := by
    intro l
    induction l with
    | nil => intro h; cases h
    | cons a r ih =>
      intro _
      rcases Nat.eq_zero_or_pos r.length with q | q
      · rw [List.length_eq_zero_iff.mp q]; exact ⟨a, .head _, fun x hx => by rw [List.mem_singleton.mp hx]; exact Nat.le_refl _⟩
      · obtain ⟨m, hm, hl⟩ := ih q
        by_cases c : sizeR a ≤ sizeR m
        · exact ⟨a, .head _, fun x hx => by
            rcases List.mem_cons.mp hx with rfl | hx
            · exact Nat.le_refl _
            · exact Nat.le_trans c (hl x hx)⟩
        · exact ⟨m, .tail _ hm, fun x hx => by
            rcases List.mem_cons.mp hx with rfl | hx
            · lia
            · exact hl x hx⟩
  obtain ⟨m, hm, hl⟩ := key rows h
  cases e : least rows with
  | some m => exact ⟨m, rfl⟩
  | none => exact absurd (List.all_eq_true.mpr fun q hq => decide_eq_true (hl q hq)) (List.find?_eq_none.mp e m hm)
theorem getRow_of_mem {rows : List Row} {r : Row} (nd : (rows.map (·.1.1)).Nodup) (h : r ∈ rows) : getRow rows r.1.1 = some r := by
  induction rows with
  | nil => cases h
  | cons a l ih =>
    obtain ⟨n1, n2⟩ := List.nodup_cons.mp nd
    unfold getRow at ih ⊢
    rw [List.find?_cons]
    rcases List.mem_cons.mp h with rfl | h
    · simp
    · have : (a.1.1 == r.1.1) = false := beq_eq_false_iff_ne.mpr fun e => n1 (List.mem_map.mpr ⟨r, h, e.symm⟩)
      rw [this]; exact ih n2 h
theorem taken_total {room : Nat} : ∀ (asked : List Ask) (rows : List Row) (k : Nat), RowsT k rows → (∀ a ∈ asked, okAsk a) →
    total (asked.foldl (stepT room) rows) = total rows + asked.length
  | [], _, _, _, _ => rfl
  | a :: l, rows, k, hr, ho => by
    have ha := ho a (.head _)
    have hs := hr.step (room := room) ha
    have ih := taken_total (room := room) l (stepT room rows a) (k + 1) hs fun b hb => ho b (.tail _ hb)
    rw [List.foldl_cons, List.length_cons, ih]
    obtain ⟨ha1, ha2⟩ := ha
    have key : total (stepT room rows a) = total rows + 1 := by
      unfold stepT
      cases hg : getRow rows a.1.1 with
      | some r =>
        have := total_del hr.nodup hg
        dsimp only
        rw [total_append, total_cons]
        unfold sizeR grow at *
        show total (delRow rows a.1.1) + (r.2.1 + 1 - a.2 + (r.2.2 + a.2) + 0) = _
        lia
      | none =>
        dsimp only
        split
        · rw [total_append, total_cons]
          unfold sizeR grow
          show total rows + (0 + 1 - a.2 + (0 + a.2) + 0) = _
          lia
        · obtain ⟨m, hm⟩ := least_ex (rows := rows) (by lia)
          have := total_del hr.nodup (getRow_of_mem hr.nodup (least_some hm).1)
          rw [hm]
          dsimp only
          rw [total_append, total_cons]
          unfold sizeR grow at *
          show total (delRow rows m.1.1) + (m.2.1 + 1 - a.2 + (m.2.2 + a.2) + 0) = _
          lia
    lia
set_option tactic.hygienic false
theorem len_sub {l : List Nat} : ∀ {l' : List Nat}, l.Nodup → (∀ x ∈ l, x ∈ l') → l.length ≤ l'.length := by
  induction l with
  | nil => intro l' _ _; exact Nat.zero_le _
  | cons a l ih =>
    intro l' hn hs
    obtain ⟨h1, h2⟩ := List.nodup_cons.mp hn
    have ha := hs a (.head _)
    have := ih (l' := l'.erase a) h2 fun x hx => (List.mem_erase_of_ne (fun (e : x = a) => h1 (e ▸ hx))).mpr (hs x (.tail _ hx))
    rw [List.length_erase_of_mem ha] at this
    have hp : 0 < l'.length := List.length_pos_of_mem ha
    rw [List.length_cons]; lia
noncomputable def names (rows : List Row) : List Nat := rows.map (·.1.1)
theorem names_len (rows : List Row) : (names rows).length = rows.length := List.length_map ..
theorem getRow_isSome {rows : List Row} {i : Nat} : getRow rows i ≠ none ↔ i ∈ names rows := by
  unfold getRow names
  constructor
  · intro h
    cases e : rows.find? (fun r => r.1.1 == i) with
    | none => exact absurd e h
    | some r => exact List.mem_map.mpr ⟨r, List.mem_of_find?_eq_some e, by simpa using List.find?_some e⟩
  · intro h e
    obtain ⟨r, hr, hi⟩ := List.mem_map.mp h
    have := List.find?_eq_none.mp e r hr
    simp [hi] at this
theorem getRow_none_iff {rows : List Row} {i : Nat} : getRow rows i = none ↔ i ∉ names rows := by
  rw [← getRow_isSome]; simp
theorem names_del (rows : List Row) (i : Nat) : names (delRow rows i) = (names rows).filter (· != i) := by
  unfold names delRow; rw [List.filter_map]; rfl
theorem getRow_snoc (rows : List Row) (r : Row) (k : Nat) : getRow (rows ++ [r]) k = (getRow rows k).or (if r.1.1 = k then some r else none) := by
  unfold getRow
  rw [List.find?_append, List.find?_cons, List.find?_nil]
  congr 1
  by_cases q : r.1.1 = k
  · rw [if_pos q, show (r.1.1 == k) = true by simpa using q]
  · rw [if_neg q, show (r.1.1 == k) = false by simpa using q]
theorem getRow_delne {rows : List Row} {j k : Nat} (h : k ≠ j) : getRow (delRow rows j) k = getRow rows k := by
  induction rows with
  | nil => rfl
  | cons a r ih =>
    rw [delRow_cons]
    unfold getRow at *
    by_cases q : a.1.1 = j
    · rw [if_neg (by simpa using q), ih, List.find?_cons, show (a.1.1 == k) = false by simp; lia]
    · rw [if_pos (by simpa using q), List.find?_cons, List.find?_cons, ih]
theorem getRow_deleq {rows : List Row} {j : Nat} : getRow (delRow rows j) j = none := by
  rw [getRow_none_iff, names_del]; simp
noncomputable def kept (rows : List Row) (i : Nat) : Nat := match getRow rows i with
  | some r => sizeR r
  | none => 0
theorem kept_none {rows : List Row} {i : Nat} (h : getRow rows i = none) : kept rows i = 0 := by unfold kept; rw [h]
theorem kept_some {rows : List Row} {i : Nat} {r : Row} (h : getRow rows i = some r) : kept rows i = sizeR r := by unfold kept; rw [h]
theorem kept_put {rows : List Row} {j k : Nat} {r : Row} (hj : r.1.1 = j) : kept (delRow rows j ++ [r]) k = if k = j then sizeR r else kept rows k := by
  unfold kept
  rw [getRow_snoc]
  by_cases q : k = j
  · subst q; rw [if_pos rfl, getRow_deleq, Option.none_or, if_pos hj]
  · rw [if_neg q, getRow_delne q, if_neg (by lia), Option.or_none]
theorem kept_new {rows : List Row} {k : Nat} {r : Row} (h : getRow rows r.1.1 = none) : kept (rows ++ [r]) k = if k = r.1.1 then sizeR r else kept rows k := by
  have := kept_put (rows := rows) (k := k) (r := r) rfl
  rwa [delRow_none (getRow_none h)] at this
theorem strike1_size {r : Row} : sizeR ((strike1 r).getD (r.1, (0, 0))) = sizeR r - 1 := by
  unfold strike1
  by_cases q : r.2.1 - 1 + (r.2.2 - (1 - r.2.1)) = 0
  · rw [if_pos q]; exact (one_less r.2.1 r.2.2 ▸ q).symm
  · rw [if_neg q]; exact one_less r.2.1 r.2.2
theorem kept_strike : ∀ {rows : List Row} (k : Nat), (names rows).Nodup → kept (rows.filterMap strike1) k = kept rows k - 1
  | [], _, _ => rfl
  | a :: l, k, h => by
    obtain ⟨h1, h2⟩ := List.nodup_cons.mp h
    have ih := kept_strike k h2
    have hz := strike1_size (r := a)
    by_cases q : a.1.1 = k
    · have hk : kept (a :: l) k = sizeR a := by unfold kept getRow; rw [List.find?_cons, show (a.1.1 == k) = true by simpa using q]
      have hl : kept l k = 0 := kept_none (getRow_none_iff.mpr (by rw [← q]; exact h1))
      rw [hk, ← hz, List.filterMap_cons]
      cases e : strike1 a with
      | none =>
        show kept (l.filterMap strike1) k = _
        rw [ih, hl]; rfl
      | some b =>
        have hb := (strike1_key e).1
        show kept (b :: l.filterMap strike1) k = sizeR b
        unfold kept getRow; rw [List.find?_cons, show (b.1.1 == k) = true by rw [hb]; simpa using q]
    · have hk : kept (a :: l) k = kept l k := by unfold kept getRow; rw [List.find?_cons, show (a.1.1 == k) = false by simpa using q]
      rw [hk, ← ih, List.filterMap_cons]
      cases e : strike1 a with
      | none => rfl
      | some b =>
        have hb := (strike1_key e).1
        show kept (b :: l.filterMap strike1) k = _
        unfold kept getRow; rw [List.find?_cons, show (b.1.1 == k) = false by rw [hb]; simpa using q]
theorem names_strike {rows : List Row} {k : Nat} (h : k ∈ names (rows.filterMap strike1)) : k ∈ names rows := by
  obtain ⟨b, hb, rfl⟩ := List.mem_map.mp h
  obtain ⟨c, hc, ec⟩ := strike_mem hb
  exact List.mem_map.mpr ⟨c, hc, by rw [(strike1_key ec).1]⟩
theorem perm_del {rows : List Row} {i : Nat} {r : Row} (nd : (names rows).Nodup) (h : getRow rows i = some r) : rows.Perm (r :: delRow rows i) := by
  induction rows with
  | nil => cases h
  | cons a l ih =>
    obtain ⟨n1, n2⟩ := List.nodup_cons.mp nd
    rw [delRow_cons]
    by_cases q : a.1.1 = i
    · have e : r = a := by
        unfold getRow at h; rw [List.find?_cons, show (a.1.1 == i) = true by simpa using q] at h; exact (Option.some.inj h).symm
      subst e
      rw [if_neg (by simpa using q), delRow_none fun x hx e => n1 (List.mem_map.mpr ⟨x, hx, by show x.1.1 = r.1.1; lia⟩)]
    · have hg : getRow l i = some r := by
        unfold getRow at h ⊢; rw [List.find?_cons, show (a.1.1 == i) = false by simpa using q] at h; exact h
      rw [if_pos (by simpa using q)]
      exact ((ih n2 hg).cons a).trans (.swap ..)
theorem del_len {rows : List Row} {i : Nat} {r : Row} (nd : (names rows).Nodup) (h : getRow rows i = some r) : (delRow rows i).length + 1 = rows.length := by
  have := (perm_del nd h).length_eq
  rw [List.length_cons] at this; lia

structure Inv (room : Nat) (R : List Row) (t : Nat) (T : List Row) : Prop where
  lenR : R.length ≤ room
  two : (t = 0 ∧ T = R) ∨ (1 ≤ t ∧ T.length = room + 1 ∧ (∀ r ∈ T, sizeR r = kept R r.1.1 + t) ∧ ∀ i ∈ names R, i ∈ names T)

theorem grow_size {a : Ask} {p : Nat × Nat} (ha : okAsk a) (k : Nat × Bool) : sizeR (k, grow a.2 p) = p.1 + p.2 + 1 := by
  obtain ⟨_, h⟩ := ha
  unfold sizeR grow; show p.1 + 1 - a.2 + (p.2 + a.2) = _; lia
/-- who is in T and not in R -/
theorem outside {R T : List Row} (nT : (names T).Nodup) (h : R.length < T.length) : ∃ r ∈ T, getRow R r.1.1 = none := by
  rcases Classical.em (∃ r ∈ T, getRow R r.1.1 = none) with q | q
  · exact q
  · have := len_sub (l' := names R) nT fun x hx => by
      obtain ⟨r, hr, rfl⟩ := List.mem_map.mp hx
      rcases Classical.em (r.1.1 ∈ names R) with z | z
      · exact z
      · exact absurd ⟨r, hr, getRow_none_iff.mpr z⟩ q
    rw [names_len, names_len] at this; lia
theorem only_one {R T : List Row} (nR : (names R).Nodup) (hs : ∀ i ∈ names R, i ∈ names T) (hl : T.length = R.length + 1) {j k : Nat} (hj : j ∈ names T) (hj2 : j ∉ names R) (hk : k ∈ names T) (hne : k ≠ j) : k ∈ names R := by
  rcases Classical.em (k ∈ names R) with z | z
  · exact z
  · have := len_sub (l := j :: k :: names R) (l' := names T) (List.nodup_cons.mpr ⟨by simp; exact ⟨Ne.symm hne, hj2⟩, List.nodup_cons.mpr ⟨z, nR⟩⟩) fun x hx => by
      rcases List.mem_cons.mp hx with rfl | hx
      · exact hj
      · rcases List.mem_cons.mp hx with rfl | hx
        · exact hk
        · exact hs x hx
    rw [List.length_cons, List.length_cons, names_len, names_len] at this; lia
theorem names_put {rows : List Row} {j : Nat} {r : Row} {k : Nat} : k ∈ names (delRow rows j ++ [r]) ↔ (k ∈ names rows ∧ k ≠ j) ∨ k = r.1.1 := by
  have : names (delRow rows j ++ [r]) = names (delRow rows j) ++ [r.1.1] := by unfold names; rw [List.map_append]; rfl
  rw [this, names_del]; simp
theorem names_new {rows : List Row} {r : Row} {k : Nat} : k ∈ names (rows ++ [r]) ↔ k ∈ names rows ∨ k = r.1.1 := by
  have : names (rows ++ [r]) = names rows ++ [r.1.1] := by unfold names; rw [List.map_append]; rfl
  rw [this]; simp
/-- a least row, where each has t and what R keeps -/
theorem least_out {room t : Nat} {R T : List Row} {m : Row} (nT : (names T).Nodup) (pR : ∀ r ∈ R, 1 ≤ sizeR r) (hR : R.length ≤ room) (hT : T.length = room + 1) (hs : ∀ r ∈ T, sizeR r = kept R r.1.1 + t) (hm : least T = some m) :
    m ∈ T ∧ getRow R m.1.1 = none ∧ sizeR m = t := by
  obtain ⟨h1, h2⟩ := least_some hm
  obtain ⟨r, hr, hn⟩ := outside nT (R := R) (by lia)
  have a1 := hs r hr
  rw [kept_none hn] at a1
  have a2 := h2 r hr
  have a3 := hs m h1
  cases e : getRow R m.1.1 with
  | none => exact ⟨h1, rfl, by rw [a3, kept_none e]; lia⟩
  | some q =>
    have := pR q (getRow_some e).1
    rw [kept_some e] at a3; lia

theorem Inv.step {room k k' : Nat} {R T : List Row} {t : Nat} {a : Ask} (I : Inv room R t T) (hR : RowsT k R) (hT : RowsT k' T) (ha : okAsk a) : Inv room (stepS room (R, t) a).1 (stepS room (R, t) a).2 (stepT room T a) := by
  have nR : (names R).Nodup := hR.nodup
  have nT : (names T).Nodup := hT.nodup
  refine ⟨stepS_len I.lenR, ?_⟩
  have lenR := I.lenR
  rcases I.two with ⟨rfl, rfl⟩ | ⟨t1, tl, hs, hsub⟩
  · unfold stepS stepT
    dsimp only
    cases hg : getRow T a.1.1 with
    | some r => exact .inl ⟨rfl, rfl⟩
    | none =>
      dsimp only
      by_cases q : T.length < room
      · rw [if_pos q, if_pos (by lia)]; exact .inl ⟨rfl, rfl⟩
      · rw [if_neg q, if_pos (by lia)]
        refine .inr ⟨Nat.le_refl _, by rw [List.length_append]; simp; lia, fun r hr => ?_, fun i hi => names_new.mpr (.inl (names_strike hi))⟩
        show sizeR r = kept (T.filterMap strike1) r.1.1 + 1
        rw [kept_strike _ nT]
        rcases List.mem_append.mp hr with hr | hr
        · have := hR.pos r hr
          rw [kept_some (getRow_of_mem nT hr)]; lia
        · cases List.mem_singleton.mp hr
          show _ = kept T a.1.1 - 1 + 1
          rw [grow_size ha, kept_none hg]
          rfl
  · right
    cases hgT : getRow T a.1.1 with
    | some q =>
      obtain ⟨hqm, hqi⟩ := getRow_some hgT
      have hq := hs q hqm
      rw [hqi] at hq
      have hT' : stepT room T a = delRow T a.1.1 ++ [(a.1, grow a.2 q.2)] := by unfold stepT; rw [hgT]
      have hl' : (delRow T a.1.1 ++ [(a.1, grow a.2 q.2)]).length = room + 1 := by
        have := del_len nT hgT
        rw [List.length_append]; simp; lia
      have hnew : sizeR (a.1, grow a.2 q.2) = sizeR q + 1 := grow_size ha _
      rw [hT']
      have mem : ∀ r ∈ delRow T a.1.1 ++ [(a.1, grow a.2 q.2)], (r ∈ T ∧ r.1.1 ≠ a.1.1) ∨ r = (a.1, grow a.2 q.2) := fun r hr => by
        rcases List.mem_append.mp hr with hr | hr
        · exact .inl ⟨delRow_mem hr, by simpa using (List.mem_filter.mp hr).2⟩
        · exact .inr (List.mem_singleton.mp hr)
      unfold stepS
      dsimp only
      cases hg : getRow R a.1.1 with
      | some r₀ =>
        dsimp only
        refine ⟨t1, hl', fun r hr => ?_, fun i hi => names_put.mpr ?_⟩
        · rw [kept_put (r := (a.1, grow a.2 r₀.2)) (j := a.1.1) rfl]
          rcases mem r hr with ⟨hr, hne⟩ | rfl
          · rw [if_neg hne]; exact hs r hr
          · rw [if_pos rfl, hnew, grow_size ha, hq, kept_some hg]; unfold sizeR; lia
        · rcases names_put.mp hi with ⟨h1, h2⟩ | h1
          · exact .inl ⟨hsub i h1, h2⟩
          · exact .inr h1
      | none =>
        dsimp only
        by_cases q1 : R.length < room
        · rw [if_pos q1]
          dsimp only
          refine ⟨t1, hl', fun r hr => ?_, fun i hi => names_put.mpr ?_⟩
          · rw [kept_new (r := (a.1, grow a.2 (0, 0))) hg]
            rcases mem r hr with ⟨hr, hne⟩ | rfl
            · rw [if_neg hne]; exact hs r hr
            · rw [if_pos rfl, hnew, grow_size ha, hq, kept_none hg]; lia
          · rcases names_new.mp hi with h1 | h1
            · exact .inl ⟨hsub i h1, fun e => (getRow_none_iff.mp hg) (e ▸ h1)⟩
            · exact .inr h1
        · rw [if_neg q1]
          dsimp only
          refine ⟨by lia, hl', fun r hr => ?_, fun i hi => names_put.mpr ?_⟩
          · rw [kept_strike _ nR]
            rcases mem r hr with ⟨hr, hne⟩ | rfl
            · have hin : r.1.1 ∈ names R := only_one nR hsub (by lia) (getRow_isSome.mp (by rw [hgT]; simp)) (getRow_none_iff.mp hg) (List.mem_map.mpr ⟨r, hr, rfl⟩) hne
              obtain ⟨b, hb⟩ := Option.ne_none_iff_exists'.mp (getRow_isSome.mpr hin)
              have := hR.pos b (getRow_some hb).1
              rw [hs r hr, kept_some hb]; lia
            · show _ = kept R a.1.1 - 1 + (t + 1)
              rw [hnew, hq, kept_none hg]; lia
          · have h1 := names_strike hi
            exact .inl ⟨hsub i h1, fun e => (getRow_none_iff.mp hg) (e ▸ h1)⟩
    | none =>
      have hg : getRow R a.1.1 = none := getRow_none_iff.mpr fun h => (getRow_none_iff.mp hgT) (hsub _ h)
      obtain ⟨m, hm⟩ := least_ex (rows := T) (by lia)
      obtain ⟨m1, m2, m3⟩ := least_out nT hR.pos lenR tl hs hm
      have hT' : stepT room T a = delRow T m.1.1 ++ [(a.1, grow a.2 m.2)] := by unfold stepT; rw [hgT]; dsimp only; rw [if_neg (by lia), hm]
      have hgm := getRow_of_mem nT m1
      have hl' : (delRow T m.1.1 ++ [(a.1, grow a.2 m.2)]).length = room + 1 := by
        have := del_len nT hgm
        rw [List.length_append]; simp; lia
      have hnew : sizeR (a.1, grow a.2 m.2) = sizeR m + 1 := grow_size ha _
      have hma : m.1.1 ≠ a.1.1 := fun e => (getRow_none_iff.mp hgT) (e ▸ List.mem_map.mpr ⟨m, m1, rfl⟩)
      rw [hT']
      have mem : ∀ r ∈ delRow T m.1.1 ++ [(a.1, grow a.2 m.2)], (r ∈ T ∧ r.1.1 ≠ m.1.1 ∧ r.1.1 ≠ a.1.1) ∨ r = (a.1, grow a.2 m.2) := fun r hr => by
        rcases List.mem_append.mp hr with hr | hr
        · exact .inl ⟨delRow_mem hr, by simpa using (List.mem_filter.mp hr).2, fun e => (getRow_none_iff.mp hgT) (e ▸ List.mem_map.mpr ⟨r, delRow_mem hr, rfl⟩)⟩
        · exact .inr (List.mem_singleton.mp hr)
      unfold stepS
      dsimp only
      rw [hg]
      dsimp only
      by_cases q1 : R.length < room
      · rw [if_pos q1]
        dsimp only
        refine ⟨t1, hl', fun r hr => ?_, fun i hi => names_put.mpr ?_⟩
        · rw [kept_new (r := (a.1, grow a.2 (0, 0))) hg]
          rcases mem r hr with ⟨hr, _, hne⟩ | rfl
          · rw [if_neg hne]; exact hs r hr
          · rw [if_pos rfl, hnew, grow_size ha, m3]; lia
        · rcases names_new.mp hi with h1 | h1
          · exact .inl ⟨hsub i h1, fun e => (getRow_none_iff.mp m2) (e ▸ h1)⟩
          · exact .inr h1
      · rw [if_neg q1]
        dsimp only
        refine ⟨by lia, hl', fun r hr => ?_, fun i hi => names_put.mpr ?_⟩
        · rw [kept_strike _ nR]
          rcases mem r hr with ⟨hr, hne, hne2⟩ | rfl
          · have hin : r.1.1 ∈ names R := only_one nR hsub (by lia) (List.mem_map.mpr ⟨m, m1, rfl⟩) (getRow_none_iff.mp m2) (List.mem_map.mpr ⟨r, hr, rfl⟩) hne
            obtain ⟨b, hb⟩ := Option.ne_none_iff_exists'.mp (getRow_isSome.mpr hin)
            have := hR.pos b (getRow_some hb).1
            rw [hs r hr, kept_some hb]; lia
          · show _ = kept R a.1.1 - 1 + (t + 1)
            rw [hnew, m3, kept_none hg]; lia
        · have h1 := names_strike hi
          exact .inl ⟨hsub i h1, fun e => (getRow_none_iff.mp m2) (e ▸ h1)⟩

theorem inv_all {room : Nat} : ∀ (asked : List Ask) (R : List Row) (t : Nat) (T : List Row) (k : Nat), Inv room R t T → RowsT k R → RowsT k T → (∀ a ∈ asked, okAsk a) →
    Inv room (asked.foldl (stepS room) (R, t)).1 (asked.foldl (stepS room) (R, t)).2 (asked.foldl (stepT room) T) ∧ RowsT (k + asked.length) (asked.foldl (stepS room) (R, t)).1 ∧ RowsT (k + asked.length) (asked.foldl (stepT room) T)
  | [], _, _, _, _, I, hR, hT, _ => ⟨I, hR, hT⟩
  | a :: l, R, t, T, k, I, hR, hT, ho => by
    have ha := ho a (.head _)
    have := inv_all l (stepS room (R, t) a).1 (stepS room (R, t) a).2 (stepT room T a) (k + 1) (I.step hR hT ha) (hR.stepS ha) (hT.step ha) fun b hb => ho b (.tail _ hb)
    rw [List.length_cons, show k + (l.length + 1) = k + 1 + l.length by lia]
    exact this
theorem RowsT.nil : RowsT 0 [] := ⟨⟨by simp, (fun r h => by cases h), by simp⟩, (fun r h => by cases h)⟩
theorem inv_end {room : Nat} {asked : List Ask} (ho : ∀ a ∈ asked, okAsk a) :
    Inv room (struck asked room).1 (struck asked room).2 (takenOver asked room) ∧ RowsT asked.length (struck asked room).1 ∧ RowsT asked.length (takenOver asked room) := by
  have := inv_all (room := room) asked [] 0 [] 0 ⟨Nat.zero_le _, .inl ⟨rfl, rfl⟩⟩ RowsT.nil RowsT.nil ho
  rwa [Nat.zero_add] at this
set_option tactic.hygienic false
/-! how often a name was asked -/
noncomputable def askedN (asked : List Ask) (i : Nat) : Nat := (asked.map (·.1.1)).count i
theorem askedN_cons (a : Ask) (l : List Ask) (i : Nat) : askedN (a :: l) i = askedN l i + if a.1.1 = i then 1 else 0 := by
  unfold askedN
  rw [List.map_cons, List.count_cons]
  by_cases q : a.1.1 = i
  · rw [if_pos q, if_pos (by simpa using q)]
  · rw [if_neg q, if_neg (by simpa using q)]
theorem count_step {room k : Nat} {R : List Row} {t : Nat} {a : Ask} (hR : RowsT k R) (ha : okAsk a) (i : Nat) :
    kept R i + (if a.1.1 = i then 1 else 0) ≤ kept (stepS room (R, t) a).1 i + ((stepS room (R, t) a).2 - t) ∧ kept (stepS room (R, t) a).1 i ≤ kept R i + (if a.1.1 = i then 1 else 0) ∧ t ≤ (stepS room (R, t) a).2 := by
  have nR : (names R).Nodup := hR.nodup
  unfold stepS
  dsimp only
  cases hg : getRow R a.1.1 with
  | some r =>
    dsimp only
    rw [kept_put (r := (a.1, grow a.2 r.2)) (j := a.1.1) rfl]
    by_cases q : i = a.1.1
    · subst q
      rw [if_pos rfl, if_pos rfl, grow_size ha, kept_some hg]
      unfold sizeR
      refine ⟨?_, ?_, Nat.le_refl _⟩ <;> lia
    · rw [if_neg q, if_neg (fun e => q e.symm)]
      refine ⟨?_, ?_, Nat.le_refl _⟩ <;> lia
  | none =>
    dsimp only
    by_cases q0 : R.length < room
    · rw [if_pos q0]
      dsimp only
      rw [kept_new (r := (a.1, grow a.2 (0, 0))) hg]
      by_cases q : i = a.1.1
      · subst q
        rw [if_pos rfl, if_pos rfl, grow_size ha, kept_none hg]
        refine ⟨?_, ?_, Nat.le_refl _⟩ <;> lia
      · rw [if_neg q, if_neg (fun e => q e.symm)]
        refine ⟨?_, ?_, Nat.le_refl _⟩ <;> lia
    · rw [if_neg q0]
      dsimp only
      rw [kept_strike _ nR]
      by_cases q : a.1.1 = i
      · rw [if_pos q, ← q, kept_none hg]
        refine ⟨?_, ?_, Nat.le_succ _⟩ <;> lia
      · rw [if_neg q]
        refine ⟨?_, ?_, Nat.le_succ _⟩ <;> lia
theorem count_all {room : Nat} (i : Nat) : ∀ (asked : List Ask) (R : List Row) (t k : Nat), RowsT k R → (∀ a ∈ asked, okAsk a) →
    kept R i + askedN asked i ≤ kept (asked.foldl (stepS room) (R, t)).1 i + ((asked.foldl (stepS room) (R, t)).2 - t) ∧ kept (asked.foldl (stepS room) (R, t)).1 i ≤ kept R i + askedN asked i ∧ t ≤ (asked.foldl (stepS room) (R, t)).2
  | [], R, t, _, _, _ => ⟨Nat.le_add_right _ _, Nat.le_add_right _ _, Nat.le_refl _⟩
  | a :: l, R, t, k, hR, ho => by
    have ha := ho a (.head _)
    obtain ⟨s1, s2, s3⟩ := count_step (room := room) (t := t) hR ha i
    obtain ⟨h1, h2, h3⟩ := count_all (room := room) i l (stepS room (R, t) a).1 (stepS room (R, t) a).2 (k + 1) (hR.stepS ha) fun b hb => ho b (.tail _ hb)
    rw [List.foldl_cons, askedN_cons]
    refine ⟨?_, ?_, ?_⟩
    · have e : (stepS room (R, t) a) = ((stepS room (R, t) a).1, (stepS room (R, t) a).2) := rfl
      rw [e]
      lia
    · exact Nat.le_trans h2 (by lia)
    · exact Nat.le_trans s3 h3
theorem count_end {room : Nat} {asked : List Ask} (ho : ∀ a ∈ asked, okAsk a) (i : Nat) : askedN asked i ≤ kept (struck asked room).1 i + (struck asked room).2 ∧ kept (struck asked room).1 i ≤ askedN asked i := by
  obtain ⟨h1, h2, _⟩ := count_all (room := room) i asked [] 0 0 RowsT.nil ho
  have e : kept [] i = 0 := rfl
  rw [e] at h1 h2
  constructor
  · have := h1; unfold struck; lia
  · have := h2; unfold struck; lia

/-! the names' last askings -/
noncomputable def lastL : List Ask → List (Nat × Bool)
  | [] => []
  | a :: l => if a.1.1 ∈ l.map (·.1.1) then lastL l else a.1 :: lastL l
theorem lastL_mem {l : List Ask} {p : Nat × Bool} (h : p ∈ lastL l) : ∃ a ∈ l, a.1 = p := by
  induction l with
  | nil => cases h
  | cons b l ih =>
    unfold lastL at h
    split at h
    · obtain ⟨a, ha, e⟩ := ih h; exact ⟨a, .tail _ ha, e⟩
    · rcases List.mem_cons.mp h with e | h
      · exact ⟨b, .head _, e.symm⟩
      · obtain ⟨a, ha, e⟩ := ih h; exact ⟨a, .tail _ ha, e⟩
theorem lastL_snoc (l : List Ask) (a : Ask) : lastL (l ++ [a]) = (lastL l).filter (fun p => p.1 != a.1.1) ++ [a.1] := by
  induction l with
  | nil => rfl
  | cons b l ih =>
    rw [List.cons_append]
    unfold lastL
    rw [List.map_append, ih]
    by_cases q1 : b.1.1 ∈ l.map (·.1.1)
    · rw [if_pos q1, if_pos (List.mem_append.mpr (.inl q1))]
    · rw [if_neg q1]
      by_cases q2 : b.1.1 = a.1.1
      · rw [if_pos (List.mem_append.mpr (.inr (by simp [q2]))), List.filter_cons_of_neg (by simp [q2])]
      · rw [if_neg (fun h => by
          rcases List.mem_append.mp h with h | h
          · exact q1 h
          · simp at h; exact q2 h), List.filter_cons_of_pos (by simpa using q2), List.cons_append]
set_option tactic.hygienic true in
theorem lastL_nodup : ∀ l : List Ask, ((lastL l).map (·.1)).Nodup
  | [] => by simp [lastL]
  | a :: l => by
    unfold lastL
    split
    · exact lastL_nodup l
    · rename_i q
      refine List.nodup_cons.mpr ⟨fun h => q ?_, lastL_nodup l⟩
      obtain ⟨p, hp, e⟩ := List.mem_map.mp h
      obtain ⟨b, hb, e2⟩ := lastL_mem hp
      exact List.mem_map.mpr ⟨b, hb, by rw [e2]; exact e⟩
noncomputable def inT (T : List Row) (p : Nat × Bool) : Bool := (getRow T p.1).isSome
theorem inT_iff {T : List Row} {p : Nat × Bool} : inT T p = true ↔ p.1 ∈ names T := by
  unfold inT; rw [← getRow_isSome]; cases getRow T p.1 <;> simp
structure LastIs (room : Nat) (asked : List Ask) (T : List Row) : Prop where
  keys : T.map (·.1) = (lastL asked).filter (inT T)
  len : T.length = min (room + 1) (lastL asked).length
theorem LastIs.put {asked : List Ask} {T : List Row} {a : Ask} {j : Nat} {p : Nat × Nat} (h : T.map (·.1) = (lastL asked).filter (inT T)) (hj : j = a.1.1 ∨ getRow T a.1.1 = none) :
    (delRow T j ++ [(a.1, p)]).map (·.1) = (lastL (asked ++ [a])).filter (inT (delRow T j ++ [(a.1, p)])) := by
  have e0 : (delRow T j).map (·.1) = (T.map (·.1)).filter (fun q => q.1 != j) := by unfold delRow; rw [List.filter_map]; rfl
  rw [List.map_append, e0, h, lastL_snoc, List.filter_append, List.filter_filter, List.filter_filter]
  have e1 : [a.1].filter (inT (delRow T j ++ [(a.1, p)])) = [a.1] := by
    rw [List.filter_cons_of_pos (inT_iff.mpr (names_put.mpr (.inr rfl)))]; rfl
  rw [e1]
  show _ ++ [a.1] = _
  congr 1
  apply List.filter_congr
  intro q _
  rw [Bool.eq_iff_iff, Bool.and_eq_true, Bool.and_eq_true, inT_iff, inT_iff, names_put]
  simp only [bne_iff_ne, ne_eq]
  constructor
  · rintro ⟨h1, h2⟩
    refine ⟨.inl ⟨h2, h1⟩, fun e => ?_⟩
    rcases hj with hj | hj
    · exact h1 (by rw [e, hj])
    · exact (getRow_none_iff.mp hj) (e ▸ h2)
  · rintro ⟨h1 | h1, h2⟩
    · exact ⟨h1.2, h1.1⟩
    · exact absurd h1 h2
set_option tactic.hygienic true in
theorem filter_len_eq {α : Type} {f : α → Bool} : ∀ {l : List α}, l.length ≤ (l.filter f).length → l.filter f = l
  | [], _ => rfl
  | a :: l, h => by
    rw [List.filter_cons] at h ⊢
    split
    · rename_i q; rw [if_pos q] at h; rw [filter_len_eq (by simpa using h)]
    · rename_i q; rw [if_neg q] at h
      have := List.length_filter_le f l
      rw [List.length_cons] at h; lia
theorem filter_ne_len {i : Nat} : ∀ {l : List (Nat × Bool)}, (l.map (·.1)).Nodup → (l.filter fun p => p.1 != i).length + (if i ∈ l.map (·.1) then 1 else 0) = l.length
  | [], _ => rfl
  | a :: l, h => by
    obtain ⟨h1, h2⟩ := List.nodup_cons.mp h
    have ih := filter_ne_len (i := i) h2
    rw [List.filter_cons, List.map_cons, List.length_cons]
    by_cases q : a.1 = i
    · rw [if_neg (by simpa using q), if_pos (by rw [q]; exact .head _)]
      rw [if_neg (by rw [← q]; exact h1)] at ih; lia
    · rw [if_pos (by simpa using q), List.length_cons]
      by_cases q2 : i ∈ l.map (·.1)
      · rw [if_pos (.tail _ q2)]; rw [if_pos q2] at ih; lia
      · rw [if_neg (fun m => by
          rcases List.mem_cons.mp m with e | m
          · exact q e.symm
          · exact q2 m)]; rw [if_neg q2] at ih; lia
theorem LastIs.step {room k : Nat} {asked : List Ask} {T : List Row} {a : Ask} (h : LastIs room asked T) (hT : RowsT k T) : LastIs room (asked ++ [a]) (stepT room T a) := by
  have nT : (names T).Nodup := hT.nodup
  have hk := h.keys
  have hl := h.len
  have nl := lastL_nodup asked
  have hlen : (lastL (asked ++ [a])).length + (if a.1.1 ∈ (lastL asked).map (·.1) then 1 else 0) = (lastL asked).length + 1 := by
    have := filter_ne_len (i := a.1.1) nl
    rw [lastL_snoc, List.length_append]; simp only [List.length_cons, List.length_nil]; lia
  have mem_of : ∀ i, i ∈ names T → i ∈ (lastL asked).map (·.1) := fun i hi => by
    obtain ⟨r, hr, rfl⟩ := List.mem_map.mp hi
    have : r.1 ∈ T.map (·.1) := List.mem_map.mpr ⟨r, hr, rfl⟩
    rw [hk] at this
    exact List.mem_map.mpr ⟨r.1, (List.mem_filter.mp this).1, rfl⟩
  unfold stepT
  cases hg : getRow T a.1.1 with
  | some r =>
    dsimp only
    refine ⟨LastIs.put hk (.inl rfl), ?_⟩
    have := del_len nT hg
    rw [if_pos (mem_of _ (getRow_isSome.mp (by rw [hg]; simp)))] at hlen
    rw [List.length_append]; simp only [List.length_cons, List.length_nil]; lia
  | none =>
    dsimp only
    by_cases q : T.length ≤ room
    · rw [if_pos q]
      have hd : delRow T a.1.1 = T := delRow_none (getRow_none hg)
      have e : (lastL asked).filter (inT T) = lastL asked := filter_len_eq (by rw [← hk, List.length_map]; lia)
      refine ⟨by have := LastIs.put (p := grow a.2 (0, 0)) hk (.inl (Eq.refl a.1.1)); rwa [hd] at this, ?_⟩
      rw [if_neg (fun m => by
        obtain ⟨p, hp, e2⟩ := List.mem_map.mp m
        rw [← e] at hp
        have := inT_iff.mp (List.mem_filter.mp hp).2
        rw [e2] at this
        exact (getRow_none_iff.mp hg) this)] at hlen
      rw [List.length_append]; simp only [List.length_cons, List.length_nil]; lia
    · rw [if_neg q]
      obtain ⟨m, hm⟩ := least_ex (rows := T) (by lia)
      rw [hm]
      dsimp only
      refine ⟨LastIs.put hk (.inr hg), ?_⟩
      have := del_len nT (getRow_of_mem nT (least_some hm).1)
      have : (if a.1.1 ∈ (lastL asked).map (·.1) then 1 else 0) ≤ 1 := by split <;> lia
      rw [List.length_append]; simp only [List.length_cons, List.length_nil]; lia
theorem last_all {room : Nat} : ∀ (asked done : List Ask) (T : List Row) (k : Nat), LastIs room done T → RowsT k T → (∀ a ∈ asked, okAsk a) → LastIs room (done ++ asked) (asked.foldl (stepT room) T)
  | [], done, T, _, h, _, _ => by rw [List.append_nil]; exact h
  | a :: l, done, T, k, h, hT, ho => by
    have := last_all l (done ++ [a]) (stepT room T a) (k + 1) (h.step hT) (hT.step (ho a (.head _))) fun b hb => ho b (.tail _ hb)
    rw [List.append_assoc] at this; exact this
theorem last_end {room : Nat} {asked : List Ask} (ho : ∀ a ∈ asked, okAsk a) : LastIs room asked (takenOver asked room) := by
  have := last_all (room := room) asked [] [] 0 ⟨rfl, by simp [lastL]⟩ RowsT.nil ho
  rwa [List.nil_append] at this

/-! the sizes of the two tables -/
theorem perm_sizes : ∀ (R T : List Row), (names R).Nodup → (names T).Nodup → (∀ i ∈ names R, i ∈ names T) → (T.map fun r => kept R r.1.1).Perm (R.map sizeR ++ List.replicate (T.length - R.length) 0)
  | [], T, _, _, _ => by
    have : (T.map fun r => kept [] r.1.1) = List.replicate T.length 0 := by
      rw [List.eq_replicate_iff]
      exact ⟨List.length_map .., fun b hb => by obtain ⟨r, _, rfl⟩ := List.mem_map.mp hb; rfl⟩
    rw [this]; exact .refl _
  | r :: R, T, nR, nT, hs => by
    obtain ⟨n1, n2⟩ := List.nodup_cons.mp nR
    obtain ⟨q, hq⟩ := Option.ne_none_iff_exists'.mp (getRow_isSome.mpr (hs r.1.1 (.head _)))
    have hqi := (getRow_some hq).2
    have hp := perm_del nT hq
    have hl := del_len nT hq
    have nD : (names (delRow T r.1.1)).Nodup := nodup_del nT
    have ih := perm_sizes R (delRow T r.1.1) n2 nD fun i hi => by
      rw [names_del]
      refine List.mem_filter.mpr ⟨hs i (.tail _ hi), ?_⟩
      have : i ≠ r.1.1 := fun e => n1 (show r.1.1 ∈ names R from e ▸ hi)
      simpa using this
    have e1 : kept (r :: R) q.1.1 = sizeR r := by
      unfold kept getRow; rw [List.find?_cons, show (r.1.1 == q.1.1) = true by simp [hqi]]
    have e2 : ((delRow T r.1.1).map fun x => kept (r :: R) x.1.1) = (delRow T r.1.1).map fun x => kept R x.1.1 := by
      apply List.map_congr_left
      intro x hx
      have : x.1.1 ≠ r.1.1 := by simpa using (List.mem_filter.mp hx).2
      unfold kept getRow; rw [List.find?_cons, show (r.1.1 == x.1.1) = false by simp; lia]
    have := hp.map fun x => kept (r :: R) x.1.1
    rw [List.map_cons, e1, e2] at this
    refine this.trans ?_
    rw [List.map_cons, List.cons_append, List.length_cons, show T.length - (R.length + 1) = (delRow T r.1.1).length - R.length by rw [← hl, Nat.add_sub_add_right]]
    exact ih.cons _
noncomputable def padded (room : Nat) (R : List Row) : List Nat := R.map sizeR ++ List.replicate (room + 1 - R.length) 0
theorem perm_main {room k k' t : Nat} {R T : List Row} (I : Inv room R t T) (hR : RowsT k R) (hT : RowsT k' T) : (padded room T).Perm ((padded room R).map (· + t)) := by
  rcases I.two with ⟨rfl, rfl⟩ | ⟨t1, tl, hs, hsub⟩
  · have : (padded room T).map (· + 0) = padded room T := List.map_id _
    rw [this]
  · have := (perm_sizes R T hR.nodup hT.nodup hsub).map (· + t)
    rw [List.map_map] at this
    unfold padded
    rw [tl, Nat.sub_self, List.replicate_zero, List.append_nil, ← tl]
    have e : T.map sizeR = T.map ((fun x => x + t) ∘ fun r => kept R r.1.1) := List.map_congr_left fun r hr => hs r hr
    rw [e]; exact this
theorem inv_size {room k' t : Nat} {R T : List Row} (I : Inv room R t T) (hT : RowsT k' T) {r : Row} (hr : r ∈ T) : sizeR r = kept R r.1.1 + t := by
  rcases I.two with ⟨rfl, rfl⟩ | ⟨t1, tl, hs, hsub⟩
  · rw [kept_some (getRow_of_mem hT.nodup hr)]; rfl
  · exact hs r hr
theorem padded_len {room : Nat} {R : List Row} (h : R.length ≤ room + 1) : (padded room R).length = room + 1 := by
  unfold padded; rw [List.length_append, List.length_map, List.length_replicate]; lia
theorem sum_replicate0 : ∀ k : Nat, (List.replicate k 0).sum = 0
  | 0 => rfl
  | k + 1 => by rw [List.replicate_succ, List.sum_cons, sum_replicate0 k]
theorem padded_sum {room : Nat} {R : List Row} : (padded room R).sum = total R := by
  unfold padded total; rw [List.sum_append, sum_replicate0]; rfl
theorem inv_len {room t : Nat} {R T : List Row} (I : Inv room R t T) : T.length ≤ room + 1 := by
  have := I.lenR
  rcases I.two with ⟨rfl, rfl⟩ | ⟨_, tl, _, _⟩ <;> lia
set_option tactic.hygienic false
noncomputable def leadL (L : List Nat) : List Nat := (L.map fun k => sp k ++ [9]).flatten
noncomputable def cnt (L : List Nat) : List Nat := L.foldl bump []
theorem ws_sp : ∀ (k : Nat) (s : WS), (sp k).foldl WS.step s = ⟨s.count, s.b + k, s.n + k, s.nt⟩
  | 0, _ => rfl
  | k + 1, s => by
    rw [sp_succ, List.foldl_cons, ws_sp k]
    have e : s.step 32 = ⟨s.count, s.b + 1, s.n + 1, s.nt⟩ := rfl
    rw [e]
    show WS.mk _ (s.b + 1 + k) (s.n + 1 + k) _ = _
    rw [show s.b + 1 + k = s.b + (k + 1) by lia, show s.n + 1 + k = s.n + (k + 1) by lia]
theorem ws_tab (s : WS) : s.step 9 = ⟨bump s.count s.b, 0, s.n + 1, s.nt + 1⟩ := rfl
theorem lead_fold : ∀ (L : List Nat) (c : List Nat) (n nt : Nat), (leadL L).foldl WS.step ⟨c, 0, n, nt⟩ = ⟨L.foldl bump c, 0, n + L.sum + L.length, nt + L.length⟩
  | [], c, n, nt => rfl
  | k :: L, c, n, nt => by
    have e : leadL (k :: L) = sp k ++ [9] ++ leadL L := rfl
    rw [e, List.foldl_append, List.foldl_append, ws_sp, List.foldl_cons, List.foldl_nil, ws_tab]
    dsimp only
    rw [lead_fold L, List.foldl_cons, List.sum_cons, List.length_cons, Nat.zero_add]
    rw [show n + k + 1 + L.sum + L.length = n + (k + L.sum) + (L.length + 1) by lia, show nt + 1 + L.length = nt + (L.length + 1) by lia]
theorem ws_lead (L : List Nat) : ws (leadL L) = ⟨cnt L, 0, L.sum + L.length, L.length⟩ := by
  unfold ws cnt; rw [lead_fold, Nat.zero_add, Nat.zero_add]
theorem ws_behind (L : List Nat) : ws (leadL L ++ [32]) = ⟨cnt L, 1, L.sum + L.length + 1, L.length⟩ := by
  rw [ws_snoc, ws_lead]; rfl
theorem ws_txt (f b : Nat) : ws (sp f ++ 9 :: sp b) = ⟨cnt [f], b, f + 1 + b, 1⟩ := by
  unfold ws
  rw [List.foldl_append, ws_sp, List.foldl_cons, ws_tab, ws_sp]
  simp only [Nat.zero_add]; rfl
theorem leadL_len : ∀ L : List Nat, (leadL L).length = L.sum + L.length
  | [] => rfl
  | k :: L => by
    have e : leadL (k :: L) = sp k ++ [9] ++ leadL L := rfl
    rw [e, List.length_append, List.length_append, sp_len, leadL_len L, List.sum_cons, List.length_cons, List.length_cons, List.length_nil]; lia
theorem leadL_cs (L : List Nat) : ∀ c ∈ leadL L, c = 32 ∨ c = 9 := by
  induction L with
  | nil => intro c h; cases h
  | cons k L ih =>
    intro c h
    have e : leadL (k :: L) = sp k ++ [9] ++ leadL L := rfl
    rw [e] at h
    rcases List.mem_append.mp h with h | h
    · rcases List.mem_append.mp h with h | h
      · exact .inl (List.eq_of_mem_replicate h)
      · exact .inr (List.mem_singleton.mp h)
    · exact ih c h
theorem getD_app0 (c : List Nat) (k j : Nat) : (c ++ List.replicate k 0).getD j 0 = c.getD j 0 := by
  rw [List.getD_eq_getElem?_getD, List.getD_eq_getElem?_getD]
  rcases Nat.lt_or_ge j c.length with q | q
  · rw [List.getElem?_append_left q]
  · rw [List.getElem?_append_right q, List.getElem?_replicate, List.getElem?_eq_none_iff.mpr q]
    split <;> rfl
theorem bump_get (c : List Nat) (b j : Nat) : (bump c b).getD j 0 = c.getD j 0 + if j = b then 1 else 0 := by
  unfold bump
  dsimp only
  generalize hc : (if c.length ≤ b then c ++ List.replicate (b - c.length + 1) 0 else c) = c'
  have h1 : ∀ j, c'.getD j 0 = c.getD j 0 := fun j => by
    rw [← hc]; split
    · exact getD_app0 ..
    · rfl
  have h2 : b < c'.length := by
    rw [← hc]; split
    · rw [List.length_append, List.length_replicate]; lia
    · lia
  rw [← h1 j]
  by_cases q : j = b
  · subst q; rw [if_pos rfl, List.getD_eq_getElem?_getD (l := c'.set _ _), List.getElem?_set_self h2]; rfl
  · rw [if_neg q, List.getD_eq_getElem?_getD, List.getD_eq_getElem?_getD, List.getElem?_set_ne (fun e => q e.symm)]; rfl
theorem bumps_get : ∀ (L c : List Nat) (j : Nat), (L.foldl bump c).getD j 0 = c.getD j 0 + L.count j
  | [], c, j => rfl
  | k :: L, c, j => by
    rw [List.foldl_cons, bumps_get L, bump_get, List.count_cons]
    by_cases q : j = k
    · subst q; simp; lia
    · rw [if_neg q, if_neg (by simpa using fun e => q e.symm)]; lia
theorem bumps_len : ∀ (L c : List Nat) (n : Nat), (L.foldl bump c).length ≤ n ↔ c.length ≤ n ∧ ∀ a ∈ L, a < n
  | [], c, n => by simp
  | k :: L, c, n => by
    rw [List.foldl_cons, bumps_len L, bump_len]
    simp only [List.mem_cons, forall_eq_or_imp]
    constructor
    · rintro ⟨h1, h2⟩; exact ⟨by lia, by lia, h2⟩
    · rintro ⟨h1, h2, h3⟩; exact ⟨by lia, h3⟩
theorem cnt_len_le (L : List Nat) (n : Nat) : (cnt L).length ≤ n ↔ ∀ a ∈ L, a < n := by unfold cnt; rw [bumps_len]; simp
theorem cnt_get (L : List Nat) (j : Nat) : (cnt L).getD j 0 = L.count j := by unfold cnt; rw [bumps_get]; simp
theorem cnt_len {L : List Nat} {M : Nat} (h : M ∈ L) (hm : ∀ a ∈ L, a ≤ M) : (cnt L).length = M + 1 := by
  have h1 := (cnt_len_le L (M + 1)).mpr fun a ha => Nat.lt_succ_of_le (hm a ha)
  have h2 := (cnt_len_le L (cnt L).length).mp (Nat.le_refl _) M h
  lia
theorem cnt_perm {L L' : List Nat} (h : L.Perm L') : cnt L = cnt L' := by
  have hl : (cnt L).length = (cnt L').length := Nat.le_antisymm
    ((cnt_len_le _ _).mpr fun a ha => (cnt_len_le _ _).mp (Nat.le_refl _) a (h.mem_iff.mp ha))
    ((cnt_len_le _ _).mpr fun a ha => (cnt_len_le _ _).mp (Nat.le_refl _) a (h.mem_iff.mpr ha))
  apply List.ext_getElem hl
  intro j h1 h2
  have e := cnt_get L j
  have e' := cnt_get L' j
  rw [List.getD_eq_getElem?_getD, List.getElem?_eq_getElem h1, Option.getD_some] at e
  rw [List.getD_eq_getElem?_getD, List.getElem?_eq_getElem h2, Option.getD_some] at e'
  rw [e, e', h.count_eq]
theorem perm_sum {L L' : List Nat} (h : L.Perm L') : L.sum = L'.sum := by
  induction h with
  | nil => rfl
  | cons x _ ih => rw [List.sum_cons, List.sum_cons, ih]
  | swap x y l => rw [List.sum_cons, List.sum_cons, List.sum_cons, List.sum_cons]; lia
  | trans _ _ i j => exact i.trans j
theorem cnt_sum {L L' : List Nat} (h : cnt L = cnt L') : L.sum = L'.sum := perm_sum (List.perm_iff_count.mpr fun j => by rw [← cnt_get, ← cnt_get, h])

noncomputable def Sn (ts : Nat) : Nat → List Nat → Nat
  | 0, _ => 0
  | N + 1, c => Sn ts N c + N / ts * c.getD N 0
theorem Sn_low {ts : Nat} (c : List Nat) : ∀ {N : Nat}, N ≤ ts → Sn ts N c = 0
  | 0, _ => rfl
  | N + 1, h => by
    unfold Sn
    rw [Sn_low c (Nat.le_of_succ_le h), Nat.div_eq_of_lt h, Nat.zero_mul]
theorem Sn_range {ts : Nat} (c : List Nat) : ∀ k : Nat, Sn ts (ts + k) c = ((List.range k).map fun j => (ts + j) / ts * c.getD (ts + j) 0).sum
  | 0 => Sn_low c (Nat.le_refl _)
  | k + 1 => by
    rw [List.range_succ, List.map_append, List.sum_append, ← Sn_range c k]
    show Sn ts (ts + k) c + _ = _
    simp
theorem Sn_bump {ts : Nat} (c : List Nat) (b : Nat) : ∀ N : Nat, Sn ts N (bump c b) = Sn ts N c + if b < N then b / ts else 0
  | 0 => rfl
  | N + 1 => by
    unfold Sn
    rw [Sn_bump c b N, bump_get, Nat.mul_add]
    rcases Nat.lt_trichotomy b N with q | q | q
    · rw [if_pos q, if_pos (show b < N + 1 by lia), if_neg (show ¬ N = b by lia), Nat.mul_zero]; lia
    · subst q; rw [if_neg (Nat.lt_irrefl _), if_pos (Nat.lt_succ_self _), if_pos rfl, Nat.mul_one]; lia
    · rw [if_neg (show ¬ b < N by lia), if_neg (show ¬ b < N + 1 by lia), if_neg (show ¬ N = b by lia), Nat.mul_zero]; lia
theorem Sn_bumps {ts N : Nat} : ∀ (L c : List Nat), (∀ a ∈ L, a < N) → Sn ts N (L.foldl bump c) = Sn ts N c + (L.map (· / ts)).sum
  | [], _, _ => rfl
  | k :: L, c, h => by
    rw [List.foldl_cons, Sn_bumps L _ fun a ha => h a (.tail _ ha), Sn_bump, if_pos (h k (.head _)), List.map_cons, List.sum_cons]; lia
theorem Sn_nil {ts : Nat} : ∀ N : Nat, Sn ts N [] = 0
  | 0 => rfl
  | N + 1 => by unfold Sn; rw [Sn_nil N]; simp
theorem il_cnt (L : List Nat) (ts : Nat) : ilOf (cnt L) ts = (L.map (· / ts)).sum := by
  have h := (cnt_len_le L (cnt L).length).mp (Nat.le_refl _)
  unfold ilOf
  rw [← Sn_range]
  have := Sn_bumps (ts := ts) (N := ts + ((cnt L).length - ts)) L [] fun a ha => by have := h a ha; lia
  rw [Sn_nil, Nat.zero_add] at this
  exact this
theorem sum_succ (L : List Nat) (ts : Nat) : (L.map (· / ts)).sum + L.length = (L.map fun c => c / ts + 1).sum := by
  induction L with
  | nil => rfl
  | cons a L ih => rw [List.map_cons, List.map_cons, List.sum_cons, List.sum_cons, List.length_cons, ← ih]; lia
theorem indent_lead (L : List Nat) (ts : Nat) : indentOf (ws (leadL L)) ts = ts * (L.map fun c => c / ts + 1).sum := by
  rw [ws_lead]; unfold indentOf; dsimp only; rw [il_cnt, sum_succ, Nat.zero_add]
theorem indent_behind (L : List Nat) (ts : Nat) : indentOf (ws (leadL L ++ [32])) ts = ts * (L.map fun c => c / ts + 1).sum + 1 := by
  rw [ws_behind]; unfold indentOf; dsimp only; rw [il_cnt, sum_succ, Nat.add_comm]
theorem indent_txt (f b ts : Nat) : indentOf (ws (sp f ++ 9 :: sp b)) ts = (f / ts + 1) * ts + b := by
  rw [ws_txt]; unfold indentOf; dsimp only; rw [il_cnt]
  show b + ts * (f / ts + 0 + 1) = _
  rw [Nat.add_zero, Nat.mul_comm, Nat.add_comm]

/-! the end: what the last claims of law say -/
theorem padded_rev {room : Nat} (T : List Row) : (T.reverse.map sizeR ++ List.replicate (room + 1 - T.length) 0).Perm (padded room T) := by
  unfold padded
  rw [List.map_reverse]
  exact (List.reverse_perm _).append_right _
theorem more_eq {room k k' t : Nat} {R T : List Row} (I : Inv room R t T) (hR : RowsT k R) (hT : RowsT k' T) (ht : total R + (room + 1) * t = 10) (ht2 : total T = 10) :
    decide (cnt (padded room R) = cnt (T.reverse.map sizeR ++ List.replicate (room + 1 - T.length) 0)) = (t == 0) := by
  rw [cnt_perm (padded_rev T)]
  by_cases q : t = 0
  · subst q
    have hp := perm_main I hR hT
    have e : (padded room R).map (· + 0) = padded room R := List.map_id _
    rw [e] at hp
    rw [cnt_perm hp]; simp
  · rw [show (t == 0) = false by simpa using q]
    refine decide_eq_false fun e => ?_
    have := cnt_sum e
    rw [padded_sum, padded_sum, ht2] at this
    have : 1 ≤ (room + 1) * t := Nat.mul_pos (Nat.succ_pos _) (Nat.pos_of_ne_zero q)
    lia
theorem top_len {room k k' t M : Nat} {R T : List Row} (I : Inv room R t T) (hR : RowsT k R) (hT : RowsT k' T) (ht : total R + (room + 1) * t = 10) (hM : M ∈ padded room R) (hm : ∀ a ∈ padded room R, a ≤ M) :
    (cnt (padded room R)).length = M + 1 ∧ (cnt (padded room T)).length = M + t + 1 ∧ 1 ≤ M + t := by
  have hp := perm_main I hR hT
  refine ⟨cnt_len hM hm, ?_, ?_⟩
  · rw [cnt_perm hp]
    refine cnt_len (List.mem_map.mpr ⟨M, hM, rfl⟩) fun a ha => ?_
    obtain ⟨b, hb, rfl⟩ := List.mem_map.mp ha
    exact Nat.add_le_add_right (hm b hb) _
  · rcases Nat.eq_zero_or_pos t with q | q
    · subst q
      rcases Nat.eq_zero_or_pos M with q | q
      · subst q
        have : (padded room R).sum = 0 := by
          have : padded room R = List.replicate (padded room R).length 0 := List.eq_replicate_iff.mpr ⟨rfl, fun b hb => Nat.le_zero.mp (hm b hb)⟩
          rw [this]; exact sum_replicate0 _
        rw [padded_sum] at this; lia
      · lia
    · lia
theorem high_eq {room k k' t : Nat} {R T : List Row} (I : Inv room R t T) (hR : RowsT k R) (hT : RowsT k' T) (ts : Nat) :
    ((padded room T).map fun c => c / ts + 1).sum = ((padded room R).map fun c => (c + t) / ts + 1).sum := by
  rw [perm_sum ((perm_main I hR hT).map fun c => c / ts + 1), List.map_map]; rfl
theorem high_gt {room k k' t : Nat} {R T : List Row} (I : Inv room R t T) (hR : RowsT k R) (hT : RowsT k' T) (ts : Nat) :
    indentOf (ws (leadL (padded room R))) ts < indentOf (ws (leadL (padded room T) ++ [32])) ts := by
  rw [indent_lead, indent_behind, high_eq I hR hT]
  refine Nat.lt_succ_of_le (Nat.mul_le_mul_left _ ?_)
  generalize padded room R = L
  induction L with
  | nil => exact Nat.le_refl _
  | cons a L ih =>
    rw [List.map_cons, List.map_cons, List.sum_cons, List.sum_cons]
    have : a / ts ≤ (a + t) / ts := Nat.div_le_div_right (Nat.le_add_right _ _)
    lia
theorem leadL_app (a b : List Nat) : leadL (a ++ b) = leadL a ++ leadL b := by unfold leadL; rw [List.map_append, List.flatten_append]
theorem leadL_zeros : ∀ k : Nat, leadL (List.replicate k 0) = List.replicate k 9
  | 0 => rfl
  | k + 1 => by
    have e : leadL (List.replicate (k + 1) 0) = [9] ++ leadL (List.replicate k 0) := rfl
    rw [e, leadL_zeros k]; rfl
theorem glued_fold : ∀ (ls : List (List Nat)) (a : List Nat), (ls.map lst).foldl (fun (acc : Array Nat) p => acc ++ (#[] : Array Nat) ++ p.cps) a.toArray = (a ++ ls.flatten).toArray
  | [], a => by simp
  | x :: r, a => by
    have e : (a.toArray ++ (#[] : Array Nat) ++ (lst x).cps) = (a ++ x).toArray := by unfold lst; simp
    rw [List.map_cons, List.foldl_cons, e, glued_fold r, List.flatten_cons, List.append_assoc]
theorem glued_lst : ∀ ls : List (List Nat), Builtin.Str.glued "" (ls.map lst) = lst ls.flatten
  | [] => by kernel_rfl
  | x :: r => by
    have e0 : (("" : Str)).cps = (#[] : Array Nat) := by kernel_rfl
    unfold Builtin.Str.glued
    rw [e0, List.map_cons]
    show Str.mk ((r.map lst).foldl _ x.toArray) = _
    rw [glued_fold r x]; rfl
theorem fold_len_le {z : Nat} : ∀ (l : List Str) (acc : Nat), (∀ s ∈ l, s.length ≤ z) → l.foldl (fun (x1 : Nat) (x2 : Str) => x1 + x2.length + (("" : Str)).length) acc ≤ acc + z * l.length
  | [], acc, _ => Nat.le_add_right _ _
  | s :: l, acc, h => by
    have h1 := h s (.head _)
    have := fold_len_le l (acc + s.length + (("" : Str)).length) fun t ht => h t (.tail _ ht)
    have e0 : (("" : Str)).length = 0 := by kernel_rfl
    rw [List.foldl_cons, List.length_cons, Nat.mul_succ]
    rw [e0] at this ⊢
    lia
/-- what replace gives of a text -/
theorem rep_txt : ∀ f ≤ 10, ∀ b ≤ 10, ((Builtin.Str.occurrences (txt f b) "\t" 0 (txt f b).length ((txt f b).length + 1)).isEmpty || ((("\t" : Str)).length == 0 && (("" : Str)).length == 0)) = false ∧
      (Builtin.Str.occurrences (txt f b) "\t" 0 (txt f b).length ((txt f b).length + 1)).length ≤ 10000 ∧
      Builtin.Str.glued "" (Builtin.Str.partsBetween (txt f b) (Builtin.Str.occurrences (txt f b) "\t" 0 (txt f b).length ((txt f b).length + 1)) (("\t" : Str)).length) = lst (sp (f + b)) := by decide +kernel
noncomputable abbrev valMV' (p : Nat × Nat) : MV := .str (txt p.1 p.2)
section
variable {w : World} {base : Heap} {prog : Program} {n : Nat} {μ : Mu}
theorem EvX.of_str {sc : Scope} {σ : Sg} {e : Expr} {P : Str → Mu → Prop} (h : Ev prog w base n sc e σ μ (fun v μ₁ => ∃ x, v = .str x ∧ P x μ₁)) : EvX prog w base n sc e σ μ (fun μ₁ v zz => ∃ x t, v = .str x t ∧ P x μ₁) := by
  intro A env s R G H F
  refine (h A env s R G H F).then_ fun mv μ₁ v s₁ ⟨x, e, p⟩ d₁ i₁ => ?_
  subst e; cases i₁ with | str _ t =>
  exact ⟨μ₁, ⟨x, t, rfl, p⟩, d₁⟩
theorem fn_lead (W : WF w (frag.heap_1 w.params) base) {lv : Addr} {vs : List (Nat × Nat)} {room : Nat} (hlv : μ lv = some (.list (vs.map valMV'))) (hv : ∀ p ∈ vs, p.1 ≤ 10 ∧ p.2 ≤ 10) (hl : vs.length ≤ room + 1) (hr : room ≤ 3) :
    FnC prog w base (n + 1) (.ref 291) [.ref lv, .int room] [] μ (fun v μ' => v = .str (lst (leadL (vs.map (fun p => p.1 + p.2) ++ List.replicate (room + 1 - vs.length) 0))) ∧ Same μ μ') := by
  refine FnC.def_ (σ₀ := [("values", .ref lv), ("room", .int room)]) W ⟨_, _, _, rfl, ?hc, rfl, rfl, rfl, rfl, rfl, rfl, rfl⟩ (FnC.pos2 fun zz zz => rfl) ?hn (by kernel_rfl) ?_
  case hc => kernel_rfl
  case hn => (show List.Nodup [("values" : Str), "room"]; decide +kernel)
  dsimp only
  sizeOf_list_dec
  sizeOf_list_dec
  sizeOf_list_dec
  refine Ev.join_const ?_
  refine EvL.listcomp (by kernel_rfl) ?_
  refine Itb.list ?_
  repeat sizeOf_list_dec
  refine ListP.intro (hlv) ?_
  refine CLoopL.ind valMV' (fun rest acc σ μ₁ => ∃ done : List (Nat × Nat), vs = done ++ rest ∧ acc = done.map (fun p => MV.str (lst (sp (p.1 + p.2) ++ [9]))) ∧ μ₁ = μ ∧ σ = ([] : Sg)) ?_ ?_ vs _ _ _ ⟨[], rfl, rfl, rfl, rfl⟩ _ .nil
  · rintro acc σ μ₁ ⟨done, hd, rfl, rfl, rfl⟩
    rw [List.append_nil] at hd
    subst hd
    refine ⟨hlv, fun D hD => ?_⟩
    have SD := Same.new (o := .list (vs.map fun p => MV.str (lst (sp (p.1 + p.2) ++ [9])))) hD
    have hg := glued_lst (vs.map fun p => sp (p.1 + p.2) ++ [9])
    have hlead : (vs.map fun p => sp (p.1 + p.2) ++ [9]).flatten = leadL (vs.map fun p => p.1 + p.2) := by unfold leadL; rw [List.map_map]; rfl
    have hsum : (vs.map fun p => p.1 + p.2).sum ≤ 20 * vs.length := by
      clear hlv hl SD hg hlead
      induction vs with
      | nil => exact Nat.zero_le _
      | cons p vs ih =>
        have := ih fun q hq => hv q (.tail _ hq)
        obtain ⟨h1, h2⟩ := hv p (.head _)
        rw [List.map_cons, List.sum_cons, List.length_cons]; lia
    have hll : (leadL (vs.map fun p => p.1 + p.2)).length ≤ 100 := by rw [leadL_len, List.length_map]; lia
    refine Fn.join (ns := (vs.map fun p => sp (p.1 + p.2) ++ [9]).map lst) (by rw [Mu.set_self, List.map_map, List.map_map]; rfl) ?_ ?_ ?_
    · unfold Builtin.Str.tooLong
      refine decide_eq_false ?_
      rw [sizeLine_eq, List.foldl_toArray]
      have := fold_len_le (z := 21) ((vs.map fun p => sp (p.1 + p.2) ++ [9]).map lst) 0 fun s hs => by
        rw [List.map_map] at hs
        obtain ⟨p, hp, rfl⟩ := List.mem_map.mp hs
        obtain ⟨h1, h2⟩ := hv p hp
        show (lst (sp (p.1 + p.2) ++ [9])).length ≤ 21
        rw [lst_len, List.length_append, sp_len]; simp; lia
      rw [List.length_map, List.length_map] at this
      lia
    · rw [hg, lst_len, hlead]; lia
    · rw [hg, hlead]
      repeat sizeOf_list_dec
      refine Ev.call_b W (by kernel_rfl) (b_none _ _ (by simp)) bb_len rfl ?_
      repeat sizeOf_list_dec
      refine Fn.len_list (SD _ _ hlv) (by rw [List.length_map]; lia) ?_
      repeat sizeOf_list_dec
      rw [List.length_map]
      have ek : ((room : Int) + 1 - (vs.length : Int)) = ((room + 1 - vs.length : Nat) : Int) := by lia
      rw [ek]
      have em : Txt.mul (("\t" : Str)) ((room + 1 - vs.length : Nat) : Int) = lst (leadL (List.replicate (room + 1 - vs.length) 0)) := by rw [leadL_zeros, tab_lit, mul_one]; rfl
      refine Op.mul_str (by lia) (by lia) (by decide) ?_
      rw [em]
      refine Op.add_str ?_ ⟨?_, SD⟩
      · rw [lst_len, lst_len, leadL_zeros, List.length_replicate]; lia
      · rw [lst_app, leadL_app]
  · rintro p rest acc σ μ₁ ⟨done, hd, rfl, rfl, rfl⟩
    obtain ⟨h1, h2⟩ := hv p (by rw [hd]; simp)
    have hdl := congrArg List.length hd
    rw [List.length_append, List.length_cons] at hdl
    refine ⟨hlv, by rw [List.length_map]; lia, Asg.name (by kernel_rfl) ?_⟩
    refine Tests.nil_ ?_
    rw [if_pos rfl]
    refine EvL.binop ?_
    refine EvL.replace (by kernel_rfl) ?_
    refine EvX.of_str ?_
    repeat sizeOf_list_dec
    obtain ⟨r1, r2, r3⟩ := rep_txt p.1 h1 p.2 h2
    refine ⟨_, rfl, by rw [txt_len]; lia, by decide, r1, r2, by rw [r3, lst_len, sp_len]; lia, ?_⟩
    rw [r3]
    repeat sizeOf_list_dec
    refine Op.add_str (by rw [lst_len, sp_len]; show _ + 1 ≤ _; lia) ?_
    exact ⟨[], .nil, done ++ [p], by rw [hd]; simp, by rw [List.map_append, tab_lit, lst_app]; rfl, rfl, rfl⟩
end
theorem sum_cast : ∀ l : List Nat, (l.map fun c : Nat => (c : Int)).sum = ((l.sum : Nat) : Int)
  | [] => rfl
  | a :: l => by rw [List.map_cons, List.sum_cons, List.sum_cons, sum_cast l, Int.natCast_add]
theorem fdiv_cast (a b : Nat) : ((a : Int)).fdiv (b : Int) = ((a / b : Nat) : Int) := by rw [Int.fdiv_eq_ediv_of_nonneg _ (Int.natCast_nonneg b)]; rfl
noncomputable def lowN (counts : List Nat) (ts : Nat) : Nat := ts * (counts.map fun c => c / ts + 1).sum
noncomputable def dueMV (counts : List Nat) (t j : Nat) : MV := .tup [.int ((1 + j : Nat) : Int), .int (lowN counts (1 + j) : Nat), .int (lowN (counts.map (· + t)) (1 + j) + 1 : Nat)]
noncomputable abbrev sgD (lc L : Addr) (t : Nat) : Sg := [("counts", .ref lc), ("strikes", .int (t : Int)), ("due", .ref L)]
section
variable {w : World} {base : Heap} {prog : Program} {n : Nat} {μ : Mu}
noncomputable abbrev invD (counts : List Nat) (M t : Nat) (lc L : Addr) (μ : Mu) : List Nat → Sg → Mu → Prop := fun rest σ μ₁ => ∃ done : List Nat, List.range (M + t + 1) = done ++ rest ∧ σ = sgD lc L t ∧ μ₁ L = some (.list (done.map (dueMV counts t))) ∧ Same μ μ₁
noncomputable abbrev postD (counts : List Nat) (t : Nat) (μ : Mu) : MV → Mu → Prop := fun v μ' => ∃ L M, v = .ref L ∧ μ' L = some (.list ((List.range (M + t + 1)).map (dueMV counts t))) ∧ M ∈ counts ∧ (∀ a ∈ counts, a ≤ M) ∧ Same μ μ'
theorem fn_lawwit (W : WF w (frag.heap_1 w.params) base) {lc : Addr} {counts : List Nat} {t : Nat} (hlc : μ lc = some (.list (intsMV counts))) (h0 : 0 < counts.length) (hz : counts.length ≤ 10) (hc : ∀ a ∈ counts, a ≤ 100) (ht : t ≤ 100) :
    FnC prog w base (n + 1) (.ref 296) [.ref lc, .int t] [] μ (postD counts t μ) := by
  refine FnC.def_ (σ₀ := [("counts", .ref lc), ("strikes", .int t)]) W ⟨_, _, _, rfl, ?hc, rfl, rfl, rfl, rfl, rfl, rfl, rfl⟩ (FnC.pos2 fun zz zz => rfl) ?hn (by kernel_rfl) ?_
  case hc => kernel_rfl
  case hn => (show List.Nodup [("counts" : Str), "strikes"]; decide +kernel)
  dsimp only
  have hints : ∀ l : List Nat, intsMV l = (l.map fun c : Nat => (c : Int)).map .int := fun l => by unfold intsMV; rw [List.map_map]; rfl
  repeat sizeOf_list_dec
  refine ⟨by decide, fun L hL => ?_⟩
  have S₀ := Same.new (o := .list []) hL
  repeat sizeOf_list_dec
  refine Ex.for_ (Itb.range2 W (by kernel_rfl) (b_none _ _ (by simp)) bb_range ?_)
  repeat sizeOf_list_dec
  refine Ev.call_b W (by kernel_rfl) (b_none _ _ (by simp)) bb_max rfl ?_
  repeat sizeOf_list_dec
  refine Fn.max_list (ns := counts.map fun c : Nat => (c : Int)) (by rw [← hints]; exact S₀ _ _ hlc) (by rw [List.length_map]; exact h0) fun M' hM hmax => ?_
  obtain ⟨M, hMc, rfl⟩ := List.mem_map.mp hM
  have hmax : ∀ a ∈ counts, a ≤ M := fun a ha => by have := hmax _ (List.mem_map.mpr ⟨a, ha, rfl⟩); lia
  have hM1 := hc M hMc
  repeat sizeOf_list_dec
  refine ⟨1, (M : Int) + (t : Int) + 2, rfl, by lia, by lia, by lia, by lia, ?_⟩
  have hu : upto 1 ((M : Int) + (t : Int) + 2) = (List.range (M + t + 1)).map (fun j : Nat => MV.int ((1 + j : Nat) : Int)) := by
    unfold upto
    rw [show ((M : Int) + (t : Int) + 2 - 1).toNat = M + t + 1 by lia]
    apply List.map_congr_left; intro j _; rw [Int.natCast_add]; rfl
  rw [hu]
  refine Loop.ind (fun j : Nat => MV.int ((1 + j : Nat) : Int)) (invD counts M t lc L μ) ?_ ?_ _ _ _
      ⟨[], rfl, rfl, Mu.set_self, S₀⟩ _ (.cons (by array_get_dec) (.cons (by array_get_dec) (.cons (by array_get_dec) .nil)))
  · rintro σ μ₁ ⟨done, hd, rfl, hl, S₁⟩
    rw [List.append_nil] at hd
    refine ⟨trivial, fun σ' hs => ?_⟩
    refine Exs.sub ?_ hs
    subst hd
    repeat sizeOf_list_dec
    exact ⟨L, M, rfl, hl, hMc, hmax, S₁⟩
  · rintro j r σ μ₁ ⟨done, hd, rfl, hl, S₁⟩
    refine ⟨trivial, ?_⟩
    have hj : j < M + t + 1 := List.mem_range.mp (by rw [hd]; simp)
    have hdl : done.length ≤ M + t + 1 := by have := congrArg List.length hd; rw [List.length_range, List.length_append] at this; lia
    refine Asg.name (by kernel_rfl) ?_
    repeat sizeOf_list_dec
    refine Ev.call_b W (by kernel_rfl) (b_none _ _ (by simp)) bb_sum rfl ?_
    repeat sizeOf_list_dec
    refine Ev.listcomp (by kernel_rfl) ?_
    refine Itb.list ?_
    repeat sizeOf_list_dec
    refine ListP.intro (S₁ _ _ hlc) ?_
    refine CLoop.pure (fun c : Nat => MV.int (c : Int)) (fun d => d.map (fun c => MV.int ((c / (1 + j) + 1 : Nat) : Int))) counts [("size", .int ((1 + j : Nat) : Int))] rfl ?_ ?_ (.cons (by kernel_rfl) .nil)
    · refine ⟨S₁ _ _ hlc, fun D hD => ?_⟩
      have S₂ := S₁.trans (Same.new (o := .list (counts.map (fun c => MV.int ((c / (1 + j) + 1 : Nat) : Int)))) hD)
      have nLD : L ≠ D := fun q => by rw [q, hD] at hl; cases hl
      have hl₂ : (μ₁.set D (.list (counts.map (fun c => MV.int ((c / (1 + j) + 1 : Nat) : Int))))) L = some (.list (done.map (dueMV counts t))) := by rw [Mu.set_ne nLD]; exact hl
      repeat sizeOf_list_dec
      refine Fn.sum_list (ns := (counts.map fun c => c / (1 + j) + 1).map fun c : Nat => (c : Int)) (by rw [Mu.set_self, List.map_map, List.map_map]; rfl) ?_
      rw [sum_cast]
      refine Op.mul_int ⟨by lia, by lia⟩ ?_
      have el : (((1 + j : Nat) : Int) * (((counts.map fun c => c / (1 + j) + 1).sum : Nat) : Int)) = ((lowN counts (1 + j) : Nat) : Int) := by unfold lowN; rw [Int.natCast_mul]
      rw [el]
      repeat sizeOf_list_dec
      refine Ex.expr ?_
      refine Ev.meth_b ?_
      repeat sizeOf_list_dec
      refine MethB.intro (BM.list hl₂ PySem.F.slot_list_append PySem.F.type_list_append) ?_
      repeat sizeOf_list_dec
      refine Ev.call_b W (by kernel_rfl) (b_none _ _ (by simp)) bb_sum rfl ?_
      repeat sizeOf_list_dec
      refine Ev.listcomp (by kernel_rfl) ?_
      refine Itb.list ?_
      repeat sizeOf_list_dec
      refine ListP.intro (S₂ _ _ hlc) ?_
      generalize (μ₁.set D (.list (counts.map (fun c => MV.int ((c / (1 + j) + 1 : Nat) : Int))))) = μ₃ at S₂ hl₂ ⊢
      refine CLoop.pure (fun c : Nat => MV.int (c : Int)) (fun d => d.map (fun c => MV.int (((c + t) / (1 + j) + 1 : Nat) : Int))) counts [("size", .int ((1 + j : Nat) : Int)), ("strikes", .int (t : Int))] rfl ?_ ?_ (.cons (by kernel_rfl) (.cons (by kernel_rfl) .nil))
      · refine ⟨S₂ _ _ hlc, fun D₅ hD₅ => ?_⟩
        have S₅ := S₂.trans (Same.new (o := .list (counts.map (fun c => MV.int (((c + t) / (1 + j) + 1 : Nat) : Int)))) hD₅)
        have nLD₅ : L ≠ D₅ := fun q => by rw [q, hD₅] at hl₂; cases hl₂
        have hl₅ : (μ₃.set D₅ (.list (counts.map (fun c => MV.int (((c + t) / (1 + j) + 1 : Nat) : Int))))) L = some (.list (done.map (dueMV counts t))) := by rw [Mu.set_ne nLD₅]; exact hl₂
        repeat sizeOf_list_dec
        refine Fn.sum_list (ns := (counts.map fun c => (c + t) / (1 + j) + 1).map fun c : Nat => (c : Int)) (by rw [Mu.set_self, List.map_map, List.map_map]; rfl) ?_
        rw [sum_cast]
        refine Op.mul_int ⟨by lia, by lia⟩ ?_
        have el : (((1 + j : Nat) : Int) * (((counts.map fun c => (c + t) / (1 + j) + 1).sum : Nat) : Int)) = ((lowN (counts.map (· + t)) (1 + j) : Nat) : Int) := by unfold lowN; rw [Int.natCast_mul, List.map_map]; rfl
        rw [el]
        repeat sizeOf_list_dec
        refine ⟨by simp, ?_⟩
        repeat sizeOf_list_dec
        refine Fn.append hl₅ (by rw [List.length_map]; lia) ⟨rfl, ?_⟩
        repeat sizeOf_list_dec
        refine ⟨sgD lc L t, .cons (by array_get_dec) (.cons (by array_get_dec) (.cons (by array_get_dec) .nil)), done ++ [j], by rw [hd]; simp, rfl, ?_, S₅.via SameBut.set hL⟩
        rw [Mu.set_self, List.map_append]; rfl
      · intro c done' rest' hd'
        have hdl' := congrArg List.length hd'
        rw [List.length_append, List.length_cons] at hdl'
        refine ⟨S₂ _ _ hlc, by rw [List.length_map]; lia, Asg.name (by kernel_rfl) ?_⟩
        refine Tests.nil_ ?_
        repeat sizeOf_list_dec
        refine Op.div_int (by lia) (by lia) ?_
        rw [show ((c : Int) + (t : Int)) = ((c + t : Nat) : Int) by lia, fdiv_cast]
        repeat sizeOf_list_dec
        exact ⟨rfl, .cons (by array_get_dec) (.cons (by array_get_dec) .nil), by dsimp only; rw [List.map_append]; rfl⟩
    · intro c done' rest' hd'
      have hdl' := congrArg List.length hd'
      rw [List.length_append, List.length_cons] at hdl'
      refine ⟨S₁ _ _ hlc, by rw [List.length_map]; lia, Asg.name (by kernel_rfl) ?_⟩
      refine Tests.nil_ ?_
      repeat sizeOf_list_dec
      refine Op.div_int (by lia) (by lia) ?_
      rw [fdiv_cast]
      repeat sizeOf_list_dec
      exact ⟨rfl, .cons (by array_get_dec) .nil, by dsimp only; rw [List.map_append]; rfl⟩
end
theorem enumL_ints : ∀ (ns : List Int) (k : Nat), enumL (ns.map .int) k = (ns.zipIdx k).map (fun p => MV.tup [.int (p.2 : Int), .int p.1])
  | [], _ => rfl
  | a :: r, k => by
    rw [List.map_cons, List.zipIdx_cons, List.map_cons, ← enumL_ints r (k + 1)]; rfl
theorem fmod_cast (a b : Nat) : ((a : Int)).fmod (b : Int) = ((a % b : Nat) : Int) := by rw [Int.fmod_eq_emod_of_nonneg _ (Int.natCast_nonneg b)]; rfl
theorem fmod_nat (x : Int) : ∃ m : Nat, x.fmod 1000000 = (m : Int) := by
  rw [Int.fmod_eq_emod_of_nonneg _ (by decide)]
  exact ⟨(x % 1000000).toNat, by rw [Int.toNat_of_nonneg (Int.emod_nonneg _ (by decide))]⟩
theorem letter_at : ∀ k < 5, (Txt.charAt ("abcde" : Str) ((k : Nat) : Int)).isSome = true ∧ Txt.item ("abcde" : Str) ((k : Nat) : Int) = nm k false := by decide +kernel
noncomputable abbrev sgA (L : Addr) : Sg := [("totals", .ref L)]
noncomputable abbrev sgA2 (L la : Addr) : Sg := [("totals", .ref L), ("asked", .ref la)]
section
variable {w : World} {base : Heap} {prog : Program} {n : Nat} {μ : Mu}
noncomputable abbrev invA (ns : List Int) (L D : Addr) (μ : Mu) : List (Int × Nat) → Sg → Mu → Prop := fun rest σ μ₂ => ∃ ts : List Nat, ts.length = 10 ∧ μ₂ L = some (.list (intsMV ts)) ∧ μ₂ D = some (.list (ns.map .int)) ∧ Same μ μ₂ ∧ σ = sgA L
noncomputable abbrev invA2 (ts : List Nat) (L la : Addr) (μ : Mu) : List Nat → Sg → Mu → Prop := fun rest σ μ₄ => ∃ (done : List Nat) (asked : List Ask), ts = done ++ rest ∧ asked.length = done.length ∧ (∀ a ∈ asked, okAsk a) ∧ μ₄ la = some (.list (asked.map askMV)) ∧ μ₄ L = some (.list (intsMV ts)) ∧ Same μ μ₄ ∧ σ = sgA2 L la
noncomputable abbrev postAsked (μ : Mu) : MV → Mu → Prop := fun v μ' => ∃ (la : Addr) (asked : List Ask) (room : Nat), v = .tup [.ref la, .int (room : Int)] ∧ μ' la = some (.list (asked.map askMV)) ∧ asked.length = 10 ∧ (∀ a ∈ asked, okAsk a) ∧ 1 ≤ room ∧ room ≤ 3 ∧ Same μ μ' ∧ μ la = none
theorem fn_asked (W : WF w (frag.heap_1 w.params) base) {sv : MV} {ns : List Int} (V : ∀ μ, LView w base sv μ (ns.map .int)) (hz : ns.length ≤ 63) :
    FnC prog w base (n + 1) (.ref 255) [sv] [] μ (postAsked μ) := by
  refine FnC.def_ (σ₀ := [("script", sv)]) W ⟨_, _, _, rfl, ?hc, rfl, rfl, rfl, rfl, rfl, rfl, rfl⟩ (FnC.pos1 fun zz => rfl) ?hn (by kernel_rfl) ?_
  case hc => kernel_rfl
  case hn => (show List.Nodup [("script" : Str)]; decide +kernel)
  dsimp only
  repeat sizeOf_list_dec
  refine ⟨by decide, fun L hL => ?_⟩
  have S₀ := Same.new (o := .list [.int 0, .int 11, .int 15, .int 2, .int 6, .int 13, .int 5, .int 17, .int 0, .int 16]) hL
  have hL₀ : (μ.set L (.list [.int 0, .int 11, .int 15, .int 2, .int 6, .int 13, .int 5, .int 17, .int 0, .int 16])) L = some (.list (intsMV [0, 11, 15, 2, 6, 13, 5, 17, 0, 16])) := Mu.set_self
  generalize (μ.set L (.list [.int 0, .int 11, .int 15, .int 2, .int 6, .int 13, .int 5, .int 17, .int 0, .int 16])) = μ₁ at S₀ hL₀ ⊢
  repeat sizeOf_list_dec
  refine Ex.for_enum W (by kernel_rfl) (b_none _ _ (by simp)) bb_enum ?_
  sizeOf_list_dec
  with_reducible refine Ev.slice ?_ ?b
  case b => (intro _ _; exact ⟨_, rfl⟩)
  sizeOf_list_dec
  show Ev _ _ _ _ _ _ _ _ _
  sizeOf_list_dec
  refine ⟨_, rfl, ?_⟩
  show SliceT _ _ _ _ _ _ _ _ _ _
  refine SliceT.list (V _) (Takes.upto (k := 63)) (by rw [List.length_map]; lia) fun D hD => ?_
  rw [List.take_of_length_le (by rw [List.length_map]; exact hz)]
  have nDL : L ≠ D := fun q => by rw [q, hD] at hL₀; cases hL₀
  repeat sizeOf_list_dec
  refine ⟨_, _, rfl, Mu.set_self, ?_⟩
  rw [enumL_ints]
  refine Loop.ind (fun p : Int × Nat => MV.tup [.int (p.2 : Int), .int p.1]) (invA ns L D μ) ?_ ?_ _ _ _
    ⟨[0, 11, 15, 2, 6, 13, 5, 17, 0, 16], rfl, by rw [Mu.set_ne nDL]; exact hL₀, Mu.set_self, S₀.trans (Same.new hD), rfl⟩ _ (.cons (by array_get_dec) .nil)
  · rintro σ μ₂ ⟨ts, htl, hl, hd, S₂, rfl⟩
    refine ⟨hd, fun σ' hs => ?_⟩
    refine Exs.sub ?_ hs
    repeat sizeOf_list_dec
    refine ⟨by decide, fun la hla => ?_⟩
    have nla : μ la = none := S₂.none hla
    have nLa : L ≠ la := fun q => by rw [q, hla] at hl; cases hl
    have S₃ := S₂.trans (Same.new (o := .list []) hla)
    have hl₃ : (μ₂.set la (.list [])) L = some (.list (intsMV ts)) := by rw [Mu.set_ne nLa]; exact hl
    repeat sizeOf_list_dec
    refine Ex.for_ ?_
    refine Itb.list ?_
    repeat sizeOf_list_dec
    refine ListP.intro (hl₃) ?_
    refine Loop.ind (fun c : Nat => MV.int (c : Int)) (invA2 ts L la μ) ?_ ?_ ts _ _
      ⟨[], [], rfl, rfl, (fun a h => by cases h), Mu.set_self, hl₃, S₃, rfl⟩ _ (.cons (by array_get_dec) (.cons (by array_get_dec) .nil))
    · rintro σ μ₄ ⟨done, asked, hdn, hal, hok, hla₄, hl₄, S₄, rfl⟩
      rw [List.append_nil] at hdn
      subst hdn
      refine ⟨hl₄, fun σ' hs => ?_⟩
      refine Exs.sub ?_ hs
      repeat sizeOf_list_dec
      refine Ev.call_b W (by kernel_rfl) (b_none _ _ (by simp)) bb_sum rfl ?_
      repeat sizeOf_list_dec
      refine Fn.sum_list (ns := ts.map fun c : Nat => (c : Int)) (by rw [hl₄]; unfold intsMV; rw [List.map_map]; rfl) ?_
      rw [sum_cast]
      repeat sizeOf_list_dec
      refine Op.mod_int (by decide) ?_
      have e3 : (((ts.sum : Nat) : Int)).fmod 3 = ((ts.sum % 3 : Nat) : Int) := fmod_cast ts.sum 3
      rw [e3]
      repeat sizeOf_list_dec
      refine ⟨by simp, la, asked, 1 + ts.sum % 3, ?_, hla₄, by lia, hok, by lia, by lia, S₄, nla⟩
      rw [Int.natCast_add]; rfl
    · rintro x rest σ μ₄ ⟨done, asked, hdn, hal, hok, hla₄, hl₄, S₄, rfl⟩
      have hdl := congrArg List.length hdn
      rw [List.length_append, List.length_cons] at hdl
      refine ⟨hl₄, Asg.name (by kernel_rfl) ?_⟩
      have m5 : ((x : Int)).fmod 5 = ((x % 5 : Nat) : Int) := fmod_cast x 5
      have d5 : ((x : Int)).fdiv 5 = ((x / 5 : Nat) : Int) := fdiv_cast x 5
      have d10 : ((x : Int)).fdiv 10 = ((x / 10 : Nat) : Int) := fdiv_cast x 10
      have m2 : (((x / 5 : Nat) : Int)).fmod 2 = ((x / 5 % 2 : Nat) : Int) := fmod_cast (x / 5) 2
      have m3 : (((x / 10 : Nat) : Int)).fmod 2 = ((x / 10 % 2 : Nat) : Int) := fmod_cast (x / 10) 2
      have h5 : x % 5 < 5 := Nat.mod_lt _ (by decide)
      have h2 : x / 10 % 2 < 2 := Nat.mod_lt _ (by decide)
      obtain ⟨c1, c2⟩ := letter_at (x % 5) h5
      repeat sizeOf_list_dec
      refine Op.mod_int (by decide) ?_
      rw [m5]
      refine ItemT.str (by unfold fitsSsize; simp; lia) c1 ?_
      rw [c2]
      repeat sizeOf_list_dec
      refine Ex.expr ?_
      refine Ev.meth_b ?_
      repeat sizeOf_list_dec
      refine MethB.intro (BM.list hla₄ PySem.F.slot_list_append PySem.F.type_list_append) ?_
      repeat sizeOf_list_dec
      refine Op.div_int (by decide) (by decide) ?_
      rw [d5]
      repeat sizeOf_list_dec
      refine Op.mod_int (by decide) ?_
      rw [m2]
      repeat sizeOf_list_dec
      by_cases q : x / 5 % 2 = 1
      · rw [if_pos (by rw [q]; rfl)]
        refine Ev.meth_b ?_
        repeat sizeOf_list_dec
        refine MethB.intro (BM.str PySem.F.slot_str_upper PySem.F.type_str_upper) ?_
        repeat sizeOf_list_dec
        refine Fn.upper (nm_fit _ h5 _).2 ?_
        rw [nm_upper _ h5]
        repeat sizeOf_list_dec
        refine Op.div_int (by decide) (by decide) ?_
        rw [d10]
        repeat sizeOf_list_dec
        refine Op.mod_int (by decide) ?_
        rw [m3]
        repeat sizeOf_list_dec
        refine ⟨by simp, ?_⟩
        repeat sizeOf_list_dec
        refine Fn.append hla₄ (by rw [List.length_map]; lia) ⟨rfl, ?_⟩
        repeat sizeOf_list_dec
        refine ⟨sgA2 L la, .cons (by array_get_dec) (.cons (by array_get_dec) .nil), done ++ [x], asked ++ [((x % 5, true), x / 10 % 2)], by rw [hdn]; simp, by rw [List.length_append, List.length_append]; simp; lia, fun a ha => ?_, ?_, ?_, S₄.via SameBut.set nla, rfl⟩
        · rcases List.mem_append.mp ha with ha | ha
          · exact hok a ha
          · cases List.mem_singleton.mp ha; exact ⟨h5, by show x / 10 % 2 ≤ 1; lia⟩
        · rw [Mu.set_self, List.map_append]; rfl
        · rw [Mu.set_ne nLa]; exact hl₄
      · rw [if_neg (by simp; lia)]
        repeat sizeOf_list_dec
        refine Op.div_int (by decide) (by decide) ?_
        rw [d10]
        repeat sizeOf_list_dec
        refine Op.mod_int (by decide) ?_
        rw [m3]
        repeat sizeOf_list_dec
        refine ⟨by simp, ?_⟩
        repeat sizeOf_list_dec
        refine Fn.append hla₄ (by rw [List.length_map]; lia) ⟨rfl, ?_⟩
        repeat sizeOf_list_dec
        refine ⟨sgA2 L la, .cons (by array_get_dec) (.cons (by array_get_dec) .nil), done ++ [x], asked ++ [((x % 5, false), x / 10 % 2)], by rw [hdn]; simp, by rw [List.length_append, List.length_append]; simp; lia, fun a ha => ?_, ?_, ?_, S₄.via SameBut.set nla, rfl⟩
        · rcases List.mem_append.mp ha with ha | ha
          · exact hok a ha
          · cases List.mem_singleton.mp ha; exact ⟨h5, by show x / 10 % 2 ≤ 1; lia⟩
        · rw [Mu.set_self, List.map_append]; rfl
        · rw [Mu.set_ne nLa]; exact hl₄
  · rintro ⟨x, i⟩ rest σ μ₂ ⟨ts, htl, hl, hd, S₂, rfl⟩
    refine ⟨hd, Asg.tuple (Asgs.cons (Asg.name (by kernel_rfl) (Asgs.cons (Asg.name (by kernel_rfl) (Asgs.nil ?_)))))⟩
    have mi : ((i : Int)).fmod 10 = ((i % 10 : Nat) : Int) := fmod_cast i 10
    have hi : i % 10 < 10 := Nat.mod_lt _ (by decide)
    obtain ⟨m, hm⟩ := fmod_nat x
    have hp : ((10 : Int) ^ (6 : Int).toNat) = 1000000 := by decide
    sizeOf_list_dec
    refine Ex.assign1 ?_
    repeat sizeOf_list_dec
    refine Op.mod_int (by decide) ?_
    dsimp only
    rw [mi]
    refine ItemT.list hl (by lia) (by lia) (by rw [Int.toNat_natCast]; exact intsMV_at ts (i % 10) (by lia)) ?_
    repeat sizeOf_list_dec
    refine Op.pow_int (by decide) (by decide) (by decide) ?_
    rw [hp]
    refine Op.mod_int (by decide) ?_
    rw [hm]
    repeat sizeOf_list_dec
    refine Asg.item ?_
    repeat sizeOf_list_dec
    refine Op.mod_int (by decide) ?_
    rw [mi]
    refine SetT.list hl (by lia) (by rw [intsMV_len]; lia) (by lia) ?_
    repeat sizeOf_list_dec
    refine ⟨sgA L, .cons (by array_get_dec) .nil, ts.set (i % 10) (ts.getD (i % 10) 0 + m), by rw [List.length_set]; exact htl, ?_, ?_, S₂.via SameBut.set hL, rfl⟩
    · rw [Mu.set_self, Int.toNat_natCast, ← intsMV_set, Int.natCast_add]
    · rw [Mu.set_ne (Ne.symm nDL)]; exact hd
end
set_option tactic.hygienic false
/-- all that law asks of the two tables -/
structure LawOk (asked : List Ask) (room : Nat) (R : List Row) (t : Nat) (T : List Row) : Prop where
  rR : RowsT 10 R
  rT : RowsT 10 T
  inv : Inv room R t T
  sumR : total R + (room + 1) * t = 10
  sumT : total T = 10
  asks : ∀ i, askedN asked i ≤ kept R i + t ∧ kept R i ≤ askedN asked i
  last : LastIs room asked T
theorem lawOk {asked : List Ask} {room : Nat} (hl : asked.length = 10) (ho : ∀ a ∈ asked, okAsk a) : LawOk asked room (struck asked room).1 (struck asked room).2 (takenOver asked room) := by
  obtain ⟨I, hR, hT⟩ := inv_end (room := room) ho
  rw [hl] at hR hT
  refine ⟨hR, hT, I, ?_, ?_, count_end ho, last_end ho⟩
  · have := struck_total (room := room) asked [] 0 0 RowsT.nil (Nat.zero_le _) ho
    rw [hl] at this
    have e : total [] = 0 := rfl
    rw [e, Nat.mul_zero] at this
    exact this
  · have := taken_total (room := room) asked [] 0 RowsT.nil ho
    rw [hl] at this
    exact this
theorem size_le_total {rows : List Row} {r : Row} (h : r ∈ rows) : sizeR r ≤ total rows := by
  induction rows with
  | nil => cases h
  | cons a l ih =>
    rw [total_cons]
    rcases List.mem_cons.mp h with rfl | h
    · lia
    · have := ih h; lia
theorem put_new {k : Str} {v : MV} : ∀ {σ : Sg}, k ∉ σ.map (·.1) → put k v σ = σ ++ [(k, v)]
  | [], _ => rfl
  | (y, u) :: r, h => by
    unfold put
    have hne : (k == y) = false := beq_eq_false_iff_ne.mpr fun e => h (by rw [e]; exact .head _)
    rw [hne, if_neg Bool.false_ne_true, put_new fun m => h (.tail _ m)]; rfl
noncomputable def keptE (r : Row) : Str × MV := (nm r.1.1 false, .int (sizeR r : Int))
theorem kept_notin {d : List Row} {r : Row} (hr : r.1.1 < 5) (hd : ∀ x ∈ d, x.1.1 < 5) (h : r.1.1 ∉ names d) : nm r.1.1 false ∉ (d.map keptE).map (·.1) := by
  intro m
  rw [List.map_map] at m
  obtain ⟨x, hx, e⟩ := List.mem_map.mp m
  exact h (List.mem_map.mpr ⟨x, hx, (nm_inj (hd x hx) hr e).1⟩)
theorem kept_look {R : List Row} {i : Nat} (hi : i < 5) (h5 : ∀ x ∈ R, x.1.1 < 5) : ((R.map keptE).lookup (nm i false)).getD (.int 0) = .int (kept R i : Int) := by
  induction R with
  | nil => rfl
  | cons a l ih =>
    have ih := ih fun x hx => h5 x (.tail _ hx)
    have ha := h5 a (.head _)
    rw [List.map_cons]
    unfold keptE
    rw [List.lookup_cons]
    by_cases q : a.1.1 = i
    · rw [show (nm i false == nm a.1.1 false) = true by rw [q]; exact beq_self_eq_true _]
      unfold kept getRow
      rw [List.find?_cons, show (a.1.1 == i) = true by simpa using q]; rfl
    · rw [show (nm i false == nm a.1.1 false) = false from beq_eq_false_iff_ne.mpr fun e => q ((nm_inj hi ha e).1.symm)]
      have e : kept (a :: l) i = kept l i := by unfold kept getRow; rw [List.find?_cons, show (a.1.1 == i) = false by simpa using q]
      rw [e]; exact ih
noncomputable def smallOf (a : Ask) : Str := nm a.1.1 false
theorem small_count {asked : List Ask} {i : Nat} (hi : i < 5) (h5 : ∀ a ∈ asked, a.1.1 < 5) : (asked.map smallOf).count (nm i false) = askedN asked i := by
  induction asked with
  | nil => rfl
  | cons a l ih =>
    rw [askedN_cons, List.map_cons, List.count_cons, ih fun x hx => h5 x (.tail _ hx)]
    have ha := h5 a (.head _)
    by_cases q : a.1.1 = i
    · rw [if_pos q, if_pos (by unfold smallOf; rw [q]; exact beq_self_eq_true _)]
    · rw [if_neg q, if_neg (by
        unfold smallOf
        rw [beq_eq_false_iff_ne.mpr fun e => q (nm_inj ha hi e).1]; exact Bool.false_ne_true)]
theorem small_in {l : List Ask} {i : Nat} (hi : i < 5) (h5 : ∀ a ∈ l, a.1.1 < 5) : (((l.map smallOf).map PyData.str).any fun y => PyData.eqv y (.str (nm i false))) = decide (i ∈ l.map (·.1.1)) := by
  induction l with
  | nil => rfl
  | cons a l ih =>
    have ha := h5 a (.head _)
    rw [List.map_cons, List.map_cons, List.any_cons, ih fun x hx => h5 x (.tail _ hx), List.map_cons]
    have e : PyData.eqv (.str (smallOf a)) (.str (nm i false)) = (nm a.1.1 false == nm i false) := rfl
    rw [e]
    by_cases q : a.1.1 = i
    · rw [show (nm a.1.1 false == nm i false) = true by rw [q]; exact beq_self_eq_true _, Bool.true_or]
      exact (decide_eq_true (by rw [q]; exact .head _)).symm
    · rw [show (nm a.1.1 false == nm i false) = false from beq_eq_false_iff_ne.mpr fun e => q (nm_inj ha hi e).1, Bool.false_or]
      rw [decide_eq_decide]
      constructor
      · exact fun h => .tail _ h
      · intro h
        rcases List.mem_cons.mp h with e | h
        · exact absurd e.symm q
        · exact h

/-! data of names, texts, ints -/
theorem strsD_lay : ∀ l : List Str, (∀ s ∈ l, PyData.canLay0 (.str s) = true) → PyData.canLayAll0 (l.map PyData.str) = true ∧ PyData.depthAll (l.map PyData.str) = 0
  | [], _ => ⟨rfl, rfl⟩
  | a :: r, h => by
    obtain ⟨h1, h2⟩ := strsD_lay r fun q hq => h q (.tail _ hq)
    constructor
    · show (PyData.canLay0 (.str a) && PyData.canLayAll0 (r.map PyData.str)) = true; rw [h1, h a (.head _)]; rfl
    · show max 0 (PyData.depthAll (r.map PyData.str)) = 0; rw [h2]; rfl
theorem strsD_ok (l : List Str) (h : ∀ s ∈ l, PyData.canLay0 (.str s) = true) : SeqAt.shaped (.list (l.map PyData.str)) = true := by
  obtain ⟨h1, h2⟩ := strsD_lay l h
  unfold SeqAt.shaped
  show ((PyData.canLayAll0 (l.map PyData.str)) && decide (PyData.depthAll (l.map PyData.str) + 1 ≤ 64)) = true
  rw [h1, h2]; rfl
theorem strsD_self : ∀ l : List Str, PyData.eqvAll (l.map PyData.str) (l.map PyData.str) = true
  | [] => rfl
  | a :: r => by
    show ((a == a) && PyData.eqvAll (r.map PyData.str) (r.map PyData.str)) = true
    rw [strsD_self r, beq_self_eq_true]; rfl
theorem PDL_strs (μ : Mu) : ∀ l : List Str, PDL μ (l.map MV.str) (l.map PyData.str)
  | [] => .nil
  | a :: r => .cons (.str a) (PDL_strs μ r)
theorem txt_lay : ∀ f ≤ 10, ∀ b ≤ 10, PyData.canLay0 (.str (txt f b)) = true := by decide +kernel
theorem txt_ix : ∀ f ≤ 10, ∀ b ≤ 10, Builtin.Str.occurrences (txt f b) "\t" 0 (txt f b).length 1 = [f] := by decide +kernel
/-- tuples of two strs -/
noncomputable def pairD (p : Str × Str) : PyData := .tuple [.str p.1, .str p.2]
noncomputable def rowS (r : Row) : Str × Str := (nm r.1.1 r.1.2, txt r.2.1 r.2.2)
theorem PDL_rowMV (μ : Mu) : ∀ l : List Row, PDL μ (l.map rowMV) (l.map fun r => pairD (rowS r))
  | [] => .nil
  | a :: r => .cons (.tup (.cons (.str _) (.cons (.str _) .nil))) (PDL_rowMV μ r)
theorem rowsS_lay : ∀ l : List Row, (∀ r ∈ l, r.1.1 < 5 ∧ r.2.1 ≤ 10 ∧ r.2.2 ≤ 10) → PyData.canLayAll0 (l.map fun r => pairD (rowS r)) = true ∧ PyData.depthAll (l.map fun r => pairD (rowS r)) ≤ 1
  | [], _ => ⟨rfl, Nat.zero_le _⟩
  | a :: r, h => by
    obtain ⟨h1, h2⟩ := rowsS_lay r fun q hq => h q (.tail _ hq)
    obtain ⟨a1, a2, a3⟩ := h a (.head _)
    constructor
    · show ((PyData.canLay0 (.str (nm a.1.1 a.1.2)) && (PyData.canLay0 (.str (txt a.2.1 a.2.2)) && true)) && PyData.canLayAll0 (r.map fun r => pairD (rowS r))) = true
      rw [h1, nm_ok _ a1, txt_lay _ a2 _ a3]; rfl
    · show max 1 (PyData.depthAll (r.map fun r => pairD (rowS r))) ≤ 1; lia
theorem rowsS_ok (l : List Row) (h : ∀ r ∈ l, r.1.1 < 5 ∧ r.2.1 ≤ 10 ∧ r.2.2 ≤ 10) : SeqAt.shaped (.list (l.map fun r => pairD (rowS r))) = true := by
  obtain ⟨h1, h2⟩ := rowsS_lay l h
  unfold SeqAt.shaped
  show ((PyData.canLayAll0 (l.map fun r => pairD (rowS r))) && decide (PyData.depthAll (l.map fun r => pairD (rowS r)) + 1 ≤ 64)) = true
  rw [h1, Bool.true_and]; exact decide_eq_true (by lia)
theorem rowsS_self : ∀ l : List Row, PyData.eqvAll (l.map fun r => pairD (rowS r)) (l.map fun r => pairD (rowS r)) = true
  | [] => rfl
  | a :: r => by
    show (((nm a.1.1 a.1.2 == nm a.1.1 a.1.2) && ((txt a.2.1 a.2.2 == txt a.2.1 a.2.2) && true)) && PyData.eqvAll (r.map fun r => pairD (rowS r)) (r.map fun r => pairD (rowS r))) = true
    rw [rowsS_self r, beq_self_eq_true, beq_self_eq_true]; rfl
/-- tuples of three ints -/
noncomputable def tripD (p : Int × Int × Int) : PyData := .tuple [.int p.1, .int p.2.1, .int p.2.2]
noncomputable def tripMV (p : Int × Int × Int) : MV := .tup [.int p.1, .int p.2.1, .int p.2.2]
theorem PD_trip (μ : Mu) (p : Int × Int × Int) : PD μ (tripMV p) (tripD p) := .tup (.cons (.int _) (.cons (.int _) (.cons (.int _) .nil)))
theorem PDL_trip (μ : Mu) : ∀ l : List (Int × Int × Int), PDL μ (l.map tripMV) (l.map tripD)
  | [] => .nil
  | a :: r => .cons (PD_trip μ a) (PDL_trip μ r)
theorem trip_ok (p : Int × Int × Int) : SeqAt.shaped (tripD p) = true := rfl
theorem trip_self (p : Int × Int × Int) : PyData.eqv (tripD p) (tripD p) = true := by
  show ((p.1 == p.1) && ((p.2.1 == p.2.1) && ((p.2.2 == p.2.2) && true))) = true
  simp
theorem trips_lay : ∀ l : List (Int × Int × Int), PyData.canLayAll0 (l.map tripD) = true ∧ PyData.depthAll (l.map tripD) ≤ 1
  | [] => ⟨rfl, Nat.zero_le _⟩
  | a :: r => by
    obtain ⟨h1, h2⟩ := trips_lay r
    constructor
    · show (true && PyData.canLayAll0 (r.map tripD)) = true; rw [h1]; rfl
    · show max 1 (PyData.depthAll (r.map tripD)) ≤ 1; lia
theorem trips_ok (l : List (Int × Int × Int)) : SeqAt.shaped (.list (l.map tripD)) = true := by
  obtain ⟨h1, h2⟩ := trips_lay l
  unfold SeqAt.shaped
  show ((PyData.canLayAll0 (l.map tripD)) && decide (PyData.depthAll (l.map tripD) + 1 ≤ 64)) = true
  rw [h1, Bool.true_and]; exact decide_eq_true (by lia)
theorem trips_self : ∀ l : List (Int × Int × Int), PyData.eqvAll (l.map tripD) (l.map tripD) = true
  | [] => rfl
  | a :: r => by
    show (PyData.eqv (tripD a) (tripD a) && PyData.eqvAll (r.map tripD) (r.map tripD)) = true
    rw [trips_self r, trip_self]; rfl
section
variable {w : World} {base : Heap} {prog : Program} {n : Nat} {μ : Mu}
theorem k_asked (P : Params) : keepIn (frag.heap_1 P) (.ref 255) = true := by kernel_rfl
theorem k_struck (P : Params) : keepIn (frag.heap_1 P) (.ref 276) = true := by kernel_rfl
theorem k_taken (P : Params) : keepIn (frag.heap_1 P) (.ref 281) = true := by kernel_rfl
theorem k_plain (P : Params) : keepIn (frag.heap_1 P) (.ref 286) = true := by kernel_rfl
theorem k_lead (P : Params) : keepIn (frag.heap_1 P) (.ref 291) = true := by kernel_rfl
theorem k_witness (P : Params) : keepIn (frag.heap_1 P) (.ref 296) = true := by kernel_rfl
theorem dun_contains (P : Params) : dunIn (frag.heap_1 P) 244 "__contains__" 176 = true := by kernel_rfl
theorem at45 (P : Params) : ((frag.heap_1 P).lookup 45).isSome = true := by kernel_rfl
theorem not_modules (W : WF w (frag.heap_1 w.params) base) {D : Addr} (hD : ∀ b o, base.get? b = some o → b < D) : (D == sysModules) = false := by
  obtain ⟨o, ho⟩ := Option.isSome_iff_exists.mp (at45 w.params)
  have := hD _ _ (W.kin _ _ ho)
  exact beq_eq_false_iff_ne.mpr fun e => by rw [e] at this; exact absurd this (by decide)
noncomputable abbrev sgL1 (sv : MV) (la Lr xs dk ls : Addr) (room t : Nat) : Sg := [("script", sv), ("asked", .ref la), ("room", .int (room : Int)), ("rows", .ref Lr), ("strikes", .int (t : Int)), ("struck", .ref xs), ("times", .int (t : Int)), ("kept", .ref dk), ("small", .ref ls)]
theorem signs_abc : signs ("abcde" : Str) = [0, 1, 2, 3, 4].map (fun i : Nat => MV.str (nm i false)) := by kernel_rfl
theorem sgL1_sub {sv : MV} {la Lr xs dk ls : Addr} {room t : Nat} : Sub (sgL1 sv la Lr xs dk ls room t) (sgL1 sv la Lr xs dk ls room t) := Sub.refl (by show List.Nodup [("script" : Str), "asked", "room", "rows", "strikes", "struck", "times", "kept", "small"]; decide +kernel)
noncomputable def nmS (p : Nat × Bool) : Str := nm p.1 p.2
noncomputable abbrev nmMV (p : Nat × Bool) : MV := .str (nmS p)
theorem upto_ten : upto 0 10 = (List.range 10).map (fun j : Nat => MV.int (j : Int)) := rfl
theorem range_at {n j : Nat} {done rest : List Nat} (h : List.range n = done ++ j :: rest) : j = done.length ∧ done.length < n := by
  have hl := congrArg List.length h
  rw [List.length_range, List.length_append, List.length_cons] at hl
  have := congrArg (fun l : List Nat => l[done.length]?) h
  simp only [List.getElem?_append_right (Nat.le_refl _), Nat.sub_self, List.getElem?_cons_zero] at this
  rw [List.getElem?_range (by lia)] at this
  exact ⟨(Option.some.inj this).symm, by lia⟩
theorem lastL_len : ∀ l : List Ask, (lastL l).length ≤ l.length
  | [] => Nat.le_refl _
  | a :: l => by
    have := lastL_len l
    unfold lastL
    rw [List.length_cons]
    split
    · lia
    · rw [List.length_cons]; lia
theorem name_ok {i : Nat} {u : Bool} (h : i < 5) : SeqAt.shaped (.str (nm i u)) = true := by
  unfold SeqAt.shaped; rw [nm_ok i h u]; rfl
noncomputable abbrev sgL3 (room t : Nat) (xs dk xt ll : Addr) : Sg := [("room", .int (room : Int)), ("strikes", .int (t : Int)), ("struck", .ref xs), ("times", .int (t : Int)), ("kept", .ref dk), ("taken", .ref xt), ("last", .ref ll)]
theorem sgL3_sub {room t : Nat} {xs dk xt ll : Addr} : Sub (sgL3 room t xs dk xt ll) (sgL3 room t xs dk xt ll) := Sub.refl (by show List.Nodup [("room" : Str), "strikes", "struck", "times", "kept", "taken", "last"]; decide +kernel)
theorem cast_pred (M : Nat) : ((M + 1 : Nat) : Int) - 1 = (M : Int) := by rw [Int.natCast_add]; exact Int.add_sub_cancel _ _
theorem top_n {M t : Nat} (h : 1 ≤ M + t) : (max (max (((M + 1 : Nat) : Int) - 1) ((0 : Nat) : Int)) (max (((M + t + 1 : Nat) : Int) - 1) ((1 : Nat) : Int)) + 1).toNat = M + t + 1 := by
  rw [cast_pred, cast_pred, Int.max_eq_left (Int.ofNat_le.mpr (Nat.zero_le M)), Int.max_eq_left (Int.ofNat_le.mpr h), Int.max_eq_right (Int.ofNat_le.mpr (Nat.le_add_right M t))]; rfl
theorem le_sum_of {a : Nat} : ∀ {l : List Nat}, a ∈ l → a ≤ l.sum
  | b :: l, h => by
    rw [List.sum_cons]
    rcases List.mem_cons.mp h with rfl | h
    · lia
    · have := le_sum_of h; lia
noncomputable abbrev invLast (asked : List Ask) (la ls : Addr) (μ₉ : Mu) : List Nat → List MV → Sg → Mu → Prop := fun rest acc σ μ' => ∃ done : List Nat, List.range 10 = done ++ rest ∧ acc ++ (lastL (asked.drop done.length)).map nmMV = (lastL asked).map nmMV ∧ acc.length ≤ done.length ∧ Same μ₉ μ' ∧ σ = ([("asked", .ref la), ("small", .ref ls)] : Sg)
noncomputable abbrev inv7 (sv : MV) (la Lr xs dk ls : Addr) (room t : Nat) (μ₆ : Mu) : List Nat → Sg → Mu → Prop := fun rest σ μ₇ => (∀ i ∈ rest, i < 5) ∧ μ₆ = μ₇ ∧ σ = sgL1 sv la Lr xs dk ls room t
noncomputable abbrev inv13 (T : List Row) (room t : Nat) (xs dk xt ll : Addr) (μ₁₈ : Mu) : List Row → Sg → Mu → Prop := fun rest σ μ' => (∀ r ∈ rest, r ∈ T) ∧ Same μ₁₈ μ' ∧ σ = sgL3 room t xs dk xt ll
theorem fn_law (W : WF w (frag.heap_1 w.params) base) {sv : MV} {ns : List Int} (V : ∀ μ, LView w base sv μ (ns.map .int)) (hz : ns.length ≤ 63) :
    FnC prog w base (n + 1 + 1 + 1 + 1 + 1 + 1) (.ref 301) [sv] [] μ (fun v zz => v = .bool true) := by
  refine FnC.def_ (σ₀ := [("script", sv)]) W ⟨_, _, _, rfl, ?hc, rfl, rfl, rfl, rfl, rfl, rfl, rfl⟩ (FnC.pos1 fun zz => rfl) ?hn (by kernel_rfl) ?_
  case hc => kernel_rfl
  case hn => (show List.Nodup [("script" : Str)]; decide +kernel)
  dsimp only
  -- asked, room
  sizeOf_list_dec
  refine Ex.assign1 ?_
  refine Ev.call_name W (by kernel_rfl) (g_asked _) (k_asked _) ?_
  repeat sizeOf_list_dec
  refine ((fn_asked (n := n) W V hz).le (by lia)).toFn.mono ?_
  rintro _ μ₁ ⟨la, asked, room, rfl, hla₁, hal, hok, hr1, hr3, -, -⟩
  refine Asg.tuple (Asgs.cons (Asg.name (by kernel_rfl) (Asgs.cons (Asg.name (by kernel_rfl) (Asgs.nil ?_)))))
  have Z := lawOk (room := room) hal hok
  have h5a : ∀ a ∈ asked, a.1.1 < 5 := fun a ha => (hok a ha).1
  -- rows, strikes
  sizeOf_list_dec
  refine Ex.assign1 ?_
  refine Ev.call_name W (by kernel_rfl) (g_plain _) (k_plain _) ?_
  repeat sizeOf_list_dec
  refine ((fn_plain (n := n) W hla₁ (by lia) hok).le (by lia)).toFn.mono ?_
  rintro _ μ₂ ⟨Lr, rfl, hLr₂, S₁₂, -⟩
  refine Asg.tuple (Asgs.cons (Asg.name (by kernel_rfl) (Asgs.cons (Asg.name (by kernel_rfl) (Asgs.nil ?_)))))
  -- struck, times
  sizeOf_list_dec
  refine Ex.assign1 ?_
  refine Ev.call_name W (by kernel_rfl) (g_struck _) (k_struck _) ?_
  repeat sizeOf_list_dec
  refine ((fn_struck (n := n) W (S₁₂ _ _ hla₁) (by lia) hok).le (by lia)).toFn.mono ?_
  rintro _ μ₃ ⟨xs, lxs, rfl, Ts₃, S₂₃, -, -⟩
  refine Asg.tuple (Asgs.cons (Asg.name (by kernel_rfl) (Asgs.cons (Asg.name (by kernel_rfl) (Asgs.nil ?_)))))
  have hla₃ := S₂₃ _ _ (S₁₂ _ _ hla₁)
  have hLr₃ := S₂₃ _ _ hLr₂
  clear hla₁ hLr₂ S₁₂ S₂₃ hz V
  generalize hRdef : (struck asked room).1 = R at Z Ts₃ hLr₃ ⊢
  generalize htdef : (struck asked room).2 = t at Z ⊢
  have hR5 : ∀ r ∈ R, r.1.1 < 5 := fun r hr => (Z.rR.le r hr).1
  have hRlen := Z.inv.lenR
  have ht10 : t ≤ 10 := by
    have := Z.sumR
    have h2 : 1 * t ≤ (room + 1) * t := Nat.mul_le_mul_right _ (by lia)
    lia
  -- kept
  sizeOf_list_dec
  refine Ex.assign_dictcomp (by kernel_rfl) (by kernel_rfl) (by kernel_rfl) ?_
  refine Itb.list ?_
  refine Ev.meth W ?_
  repeat sizeOf_list_dec
  obtain ⟨ds₃, hxs₃⟩ := Ts₃.inst
  refine MethP.intro (f := 208) (hxs₃) (methIn_items _) (by kernel_rfl) ?_
  repeat sizeOf_list_dec
  refine Fn.news ((fn_items (n := n) W Ts₃).le (by lia)).toFn fun D₄ hD₄ => ?_
  have S₃₄ := Same.new (o := .list (R.map rowMV)) hD₄
  have hD₄' : (μ₃.set D₄ (.list (R.map rowMV))) D₄ = some (.list (R.map rowMV)) := Mu.set_self
  generalize (μ₃.set D₄ (.list (R.map rowMV))) = μ₄ at S₃₄ hD₄' ⊢
  refine ListP.intro (hD₄') ?_
  refine DLoop.ind rowMV (fun rest acc σ μ₅ => ∃ done : List Row, R = done ++ rest ∧ acc = done.map keptE ∧ μ₄ = μ₅ ∧ σ = ([] : Sg)) ?_ ?_ R _ _ _ ⟨[], rfl, rfl, rfl, rfl⟩ _ .nil
  · rintro acc σ _ ⟨done, hd, rfl, rfl, rfl⟩
    rw [List.append_nil] at hd
    subst hd
    refine ⟨hD₄', fun hnd dk hdk hbig => ?_⟩
    have hmod := not_modules W hbig
    have S₅ := S₃₄.trans (Same.new (o := .dict (R.map keptE)) hdk)
    have hdk₅ : (μ₄.set dk (.dict (R.map keptE))) dk = some (.dict (R.map keptE)) := Mu.set_self
    generalize (μ₄.set dk (.dict (R.map keptE))) = μ₅ at S₅ hdk₅ ⊢
    have Ts₅ := Ts₃.same S₅
    have hla₅ := S₅ _ _ hla₃
    have hLr₅ := S₅ _ _ hLr₃
    clear hxs₃ hla₃ hLr₃ Ts₃ S₃₄ S₅ hD₄ hD₄' hdk hbig
    show Exs _ _ _ _ _ _ _ _ _
    -- the sum
    sizeOf_list_dec
    sizeOf_list_dec
    sizeOf_list_dec
    sizeOf_list_dec
    refine Ev.over_values W (by kernel_rfl) (b_none _ _ (by simp)) bb_sum rfl ?_
    repeat sizeOf_list_dec
    refine ⟨_, _, rfl, hdk₅, hnd, hmod, ?_⟩
    refine VT.sum (ns := (R.map sizeR).map fun c : Nat => (c : Int)) hdk₅ hnd (by rw [List.map_map, List.map_map, List.map_map]; rfl) ?_
    rw [sum_cast]
    repeat sizeOf_list_dec
    refine Op.mul_int ⟨by lia, by lia⟩ ?_
    repeat sizeOf_list_dec
    have hsum : (((R.map sizeR).sum : Nat) : Int) + ((room : Int) + 1) * (t : Int) = 10 := by
      have := Z.sumR
      unfold total at this
      have h2 : (((room + 1) * t : Nat) : Int) = ((room : Int) + 1) * (t : Int) := by rw [Int.natCast_mul, Int.natCast_add]; rfl
      rw [← h2]; lia
    rw [hsum, if_neg (by decide)]
    repeat sizeOf_list_dec
    -- small
    refine Ex.assign_cellcomp (by kernel_rfl) (by kernel_rfl) ?_
    refine Ev.listcomp (by kernel_rfl) ?_
    refine Itb.list ?_
    repeat sizeOf_list_dec
    refine ListP.intro (hla₅) ?_
    refine CLoop.pure askMV (fun d => (d.map smallOf).map .str) asked [] rfl ?_ ?_ .nil
    · refine ⟨hla₅, fun ls hls => ?_⟩
      have S₆ := Same.new (o := .list ((asked.map smallOf).map .str)) hls
      have hls₆ : (μ₅.set ls (.list ((asked.map smallOf).map .str))) ls = some (.list ((asked.map smallOf).map .str)) := Mu.set_self
      generalize (μ₅.set ls (.list ((asked.map smallOf).map .str))) = μ₆ at S₆ hls₆ ⊢
      have Ts := Ts₅.same S₆
      have hla := S₆ _ _ hla₅
      have hLr := S₆ _ _ hLr₅
      have hdk := S₆ _ _ hdk₅
      clear hla₅ hLr₅ hdk₅ Ts₅ S₆ hls
      show Exs _ _ _ _ _ _ _ _ _
      refine Exs.sub (σ' := sgL1 sv la Lr xs dk ls room t) ?_ (.cons (by array_get_dec) (.cons (by array_get_dec) (.cons (by array_get_dec) (.cons (by array_get_dec) (.cons (by array_get_dec) (.cons (by array_get_dec) (.cons (by array_get_dec) (.cons (by array_get_dec) (.cons (by array_get_dec) .nil)))))))))
      -- each letter
      sizeOf_list_dec
      refine Ex.for_ ?_
      refine Itb.str ?_
      sizeOf_list_dec
      refine ⟨_, rfl, ?_⟩
      rw [signs_abc]
      refine Loop.ind (fun i : Nat => MV.str (nm i false)) (inv7 sv la Lr xs dk ls room t μ₆) ?k7 ?b7 [0, 1, 2, 3, 4] _ _ ⟨by decide, rfl, rfl⟩ _ sgL1_sub
      case b7 =>
        rintro i rest σ _ ⟨hi, rfl, rfl⟩
        have hi5 := hi i (.head _)
        obtain ⟨c1, c2⟩ := Z.asks i
        refine ⟨trivial, Asg.name (by kernel_rfl) ?_⟩
        repeat sizeOf_list_dec
        refine Ev.meth_b ?_
        repeat sizeOf_list_dec
        refine MethB.intro (BM.list hls₆ PySem.F.slot_list_count PySem.F.type_list_count) ?_
        repeat sizeOf_list_dec
        refine Fn.count_strs hls₆ ?_
        rw [small_count hi5 h5a]
        refine Ev.meth_b ?_
        repeat sizeOf_list_dec
        refine MethB.intro (BM.dict hdk PySem.F.slot_dict_get PySem.F.type_dict_get) ?_
        repeat sizeOf_list_dec
        refine Fn.dict_get hdk hnd hmod ?_
        rw [kept_look hi5 hR5]
        repeat sizeOf_list_dec
        rw [if_pos (by simp; lia)]
        repeat sizeOf_list_dec
        rw [if_neg (by simp; lia)]
        repeat sizeOf_list_dec
        exact ⟨_, .cons (by array_get_dec) (.cons (by array_get_dec) (.cons (by array_get_dec) (.cons (by array_get_dec) (.cons (by array_get_dec) (.cons (by array_get_dec) (.cons (by array_get_dec) (.cons (by array_get_dec) (.cons (by array_get_dec) .nil)))))))), fun j hj => hi j (.tail _ hj), rfl, rfl⟩
      rintro σ _ ⟨-, rfl, rfl⟩
      refine ⟨trivial, fun σ' hs => ?_⟩
      refine Exs.sub ?_ hs
      clear hs
      -- the same rows
      sizeOf_list_dec
      sizeOf_list_dec
      sizeOf_list_dec
      repeat sizeOf_list_dec
      rw [if_neg (by simp)]
      repeat sizeOf_list_dec
      obtain ⟨ds₆, hxs₆⟩ := Ts.inst
      refine Ev.meth W ?_
      repeat sizeOf_list_dec
      refine MethP.intro (f := 208) (hxs₆) (methIn_items _) (by kernel_rfl) ?_
      repeat sizeOf_list_dec
      refine Fn.news ((fn_items (n := n) W Ts).le (by lia)).toFn fun D₇ hD₇ => ?_
      have S₇ := Same.new (o := .list (R.map rowMV)) hD₇
      have hD₇' : (μ₆.set D₇ (.list (R.map rowMV))) D₇ = some (.list (R.map rowMV)) := Mu.set_self
      generalize (μ₆.set D₇ (.list (R.map rowMV))) = μ₇ at S₇ hD₇' ⊢
      refine Ev.listcomp (by kernel_rfl) ?_
      refine Itb.list ?_
      repeat sizeOf_list_dec
      refine ListP.intro (S₇ _ _ hLr) ?_
      refine CLoop.pure rowP (fun d => d.map rowMV) R [] rfl ?k8 ?b8 .nil
      case b8 =>
        intro r done rest hd
        have hdl := congrArg List.length hd
        rw [List.length_append, List.length_cons] at hdl
        obtain ⟨r5, rf, rb⟩ := Z.rR.le r (by rw [hd]; simp)
        refine ⟨S₇ _ _ hLr, by rw [List.length_map]; lia, Asg.name (by kernel_rfl) ?_⟩
        refine Tests.nil_ ?_
        repeat sizeOf_list_dec
        refine ItemT.tup (by decide) (by decide) rfl ?_
        repeat sizeOf_list_dec
        refine Ev.call_name W (by kernel_rfl) (g_text _) (k_text _) ?_
        repeat sizeOf_list_dec
        refine ItemT.tup (by decide) (by decide) rfl ?_
        repeat sizeOf_list_dec
        refine ItemT.tup (by decide) (by decide) rfl ?_
        repeat sizeOf_list_dec
        refine Fn.eqs ((fn_text (n := n) W (f := r.2.1) (b := r.2.2) (by lia) (by lia)).le (by lia)).toFn ?_
        repeat sizeOf_list_dec
        exact ⟨by simp, rfl, .nil, by dsimp only; rw [List.map_append]; rfl⟩
      refine ⟨S₇ _ _ hLr, fun D₈ hD₈ => ?_⟩
      have S₈ := Same.new (o := .list (R.map rowMV)) hD₈
      refine Op.ne_data (.list (S₈ _ _ hD₇') (PDL_rowMV _ _)) (.list Mu.set_self (PDL_rowMV _ _)) (rowsS_ok _ Z.rR.le) (rowsS_ok _ Z.rR.le) ?_
      rw [show PyData.eqv (.list (R.map fun r => pairD (rowS r))) (.list (R.map fun r => pairD (rowS r))) = true from rowsS_self R]
      have S₆₈ := S₇.trans S₈
      generalize (μ₇.set D₈ (.list (R.map rowMV))) = μ₈ at S₆₈ ⊢
      repeat sizeOf_list_dec
      rw [if_neg (by decide)]
      have Ts₈ := Ts.same S₆₈
      have hla₈ := S₆₈ _ _ hla
      have hls₈ := S₆₈ _ _ hls₆
      have hdk₈ := S₆₈ _ _ hdk
      clear hla hLr hdk hls₆ Ts S₆₈ S₇ S₈ hD₇ hD₇' hD₈ hxs₆
      -- taken
      repeat sizeOf_list_dec
      refine Ev.call_name W (by kernel_rfl) (g_taken _) (k_taken _) ?_
      repeat sizeOf_list_dec
      refine ((fn_taken (n := n) W hla₈ (by lia) hok).le (by lia)).toFn.mono ?_
      rintro _ μ₉ ⟨xt, lt, rfl, Tt, S₉, -, -⟩
      generalize hTdef : takenOver asked room = T at Z Tt ⊢
      have Ts := Ts₈.same S₉
      have hla := S₉ _ _ hla₈
      have hls := S₉ _ _ hls₈
      have hdk := S₉ _ _ hdk₈
      clear hla₈ hls₈ hdk₈ Ts₈ S₉
      have hT5 : ∀ r ∈ T, r.1.1 < 5 := fun r hr => (Z.rT.le r hr).1
      have hTlen := inv_len Z.inv
      obtain ⟨dt, hxt⟩ := Tt.inst
      -- last
      sizeOf_list_dec
      refine Ex.assign_listcomp (by kernel_rfl) (by kernel_rfl) (by kernel_rfl) ?_
      refine Itb.range1 W (by kernel_rfl) (b_none _ _ (by simp)) bb_range ?_
      repeat sizeOf_list_dec
      refine ⟨10, rfl, by decide, by decide, ?_⟩
      rw [upto_ten]
      refine CLoop.ind (fun j : Nat => MV.int (j : Int)) (invLast asked la ls μ₉)
        ?k10 ?b10 (List.range 10) _ _ _ ⟨[], rfl, rfl, Nat.zero_le _, Same.refl, rfl⟩ _ (.cons (by kernel_rfl) (.cons (by kernel_rfl) .nil))
      case b10 =>
        rintro j rest acc σ μ' ⟨done, hd, he, hlen, S, rfl⟩
        obtain ⟨ej, hj⟩ := range_at hd
        subst ej
        have hja : done.length < asked.length := by lia
        have hdr : asked.drop done.length = asked[done.length] :: asked.drop (done.length + 1) := List.drop_eq_getElem_cons hja
        generalize asked[done.length] = a at hdr
        have ham : a ∈ asked := List.mem_of_mem_drop (i := done.length) (by rw [hdr]; exact .head _)
        have ha5 := h5a a ham
        have hat : asked[done.length]? = some a := by
          have := congrArg List.head? hdr
          rwa [List.head?_drop] at this
        refine ⟨trivial, by lia, Asg.name (by kernel_rfl) ?_⟩
        refine Tests.one_ ?_
        repeat sizeOf_list_dec
        refine ItemT.list (m := .str (smallOf a)) (S _ _ hls) (by lia) (by lia) (by rw [Int.toNat_natCast, List.getElem?_map, List.getElem?_map, hat]; rfl) ?_
        with_reducible refine Ev.slice ?_ ?b
        case b => (intro _ _; exact ⟨_, rfl⟩)
        sizeOf_list_dec
        show Ev _ _ _ _ _ _ _ _ _
        repeat sizeOf_list_dec
        refine ⟨_, rfl, ?_⟩
        show SliceT _ _ _ _ _ _ _ _ _ _
        rw [show ((done.length : Int) + 1) = ((done.length + 1 : Nat) : Int) from rfl]
        refine SliceT.list (LView.mu (S _ _ hls)) (Takes.from (k := done.length + 1) (by rw [List.length_map, List.length_map]; lia)) (by rw [List.length_map, List.length_map]; lia) fun D hD => ?_
        rw [← List.map_drop, ← List.map_drop] at *
        have S' := S.trans (Same.new (o := .list (((asked.drop (done.length + 1)).map smallOf).map .str)) hD)
        have h5d : ∀ b ∈ asked.drop (done.length + 1), b.1.1 < 5 := fun b hb => h5a b (List.mem_of_mem_drop hb)
        refine Op.notin_data (.str _) (.list Mu.set_self (PDL_strs _ _)) (name_ok ha5) (strsD_ok _ fun s hs => ?_) ?_
        · obtain ⟨b, hb, rfl⟩ := List.mem_map.mp hs
          exact nm_ok _ (h5d b hb) _
        have hin := small_in ha5 h5d
        unfold smallOf at hin ⊢
        rw [hin]
        repeat sizeOf_list_dec
        by_cases q : a.1.1 ∈ (asked.drop (done.length + 1)).map (·.1.1)
        · rw [if_neg (by rw [decide_eq_true q]; decide)]
          refine ⟨_, .cons (by array_get_dec) (.cons (by array_get_dec) .nil), done ++ [done.length], by rw [hd]; simp, ?_, by rw [List.length_append]; lia, S', rfl⟩
          rw [← he, hdr, List.length_append]
          show _ = acc ++ List.map nmMV (if a.1.1 ∈ (asked.drop (done.length + 1)).map (·.1.1) then lastL (asked.drop (done.length + 1)) else _)
          rw [if_pos q]; rfl
        · rw [if_pos (by rw [decide_eq_false q]; decide)]
          repeat sizeOf_list_dec
          refine ItemT.list (m := askMV a) (S' _ _ hla) (by lia) (by lia) (by rw [Int.toNat_natCast, List.getElem?_map, hat]; rfl) ?_
          repeat sizeOf_list_dec
          refine ItemT.tup (by decide) (by decide) rfl ?_
          refine ⟨_, .cons (by array_get_dec) (.cons (by array_get_dec) .nil), done ++ [done.length], by rw [hd]; simp, ?_, by rw [List.length_append, List.length_append]; exact Nat.add_le_add_right hlen 1, S', rfl⟩
          rw [← he, hdr, List.length_append]
          show _ = acc ++ List.map nmMV (if a.1.1 ∈ (asked.drop (done.length + 1)).map (·.1.1) then _ else a.1 :: lastL (asked.drop (done.length + 1)))
          rw [if_neg q, List.map_cons, List.append_assoc]; rfl
      rintro acc σ μ' ⟨done, hd, he, -, S, rfl⟩
      rw [List.append_nil] at hd
      rw [← hd, List.length_range, List.drop_eq_nil_of_le (by lia)] at he
      have he : acc = (lastL asked).map nmMV := by rw [← he]; exact (List.append_nil _).symm
      subst he
      refine ⟨trivial, fun ll hll => ?_⟩
      have S₁₀ := S.trans (Same.new (o := .list ((lastL asked).map nmMV)) hll)
      have hll' : (μ'.set ll (.list ((lastL asked).map nmMV))) ll = some (.list ((lastL asked).map nmMV)) := Mu.set_self
      generalize (μ'.set ll (.list ((lastL asked).map nmMV))) = μ₁₀ at S₁₀ hll' ⊢
      have Ts₁₀ := Ts.same S₁₀
      have Tt₁₀ := Tt.same S₁₀
      have hdk₁₀ := S₁₀ _ _ hdk
      have hxt₁₀ := S₁₀ _ _ hxt
      clear hla hls hdk hxt Ts Tt S S₁₀ hll hd
      show Exs _ _ _ _ _ _ _ _ _
      refine Exs.sub (σ' := sgL3 room t xs dk xt ll) ?_ (.cons (by array_get_dec) (.cons (by array_get_dec) (.cons (by array_get_dec) (.cons (by array_get_dec) (.cons (by array_get_dec) (.cons (by array_get_dec) (.cons (by array_get_dec) .nil)))))))
      -- keys
      sizeOf_list_dec
      sizeOf_list_dec
      sizeOf_list_dec
      sizeOf_list_dec
      refine Ev.meth W ?_
      repeat sizeOf_list_dec
      refine MethP.intro (f := 196) (hxt₁₀) (methIn_keys _) (by kernel_rfl) ?_
      repeat sizeOf_list_dec
      refine Fn.news ((fn_keys (n := n) W Tt₁₀).le (by lia)).toFn fun D₁ hD₁ => ?_
      have ek : (T.map fun r => MV.str (nm r.1.1 r.1.2)) = (((lastL asked).filter (inT T)).map nmS).map .str := by
        rw [← Z.last.keys, List.map_map, List.map_map]; rfl
      rw [ek]
      have S₁₁ := Same.new (o := .list ((((lastL asked).filter (inT T)).map nmS).map .str)) hD₁
      have hD₁' : (μ₁₀.set D₁ (.list ((((lastL asked).filter (inT T)).map nmS).map .str))) D₁ = some (.list ((((lastL asked).filter (inT T)).map nmS).map .str)) := Mu.set_self
      generalize (μ₁₀.set D₁ (.list ((((lastL asked).filter (inT T)).map nmS).map .str))) = μ₁₁ at S₁₁ hD₁' ⊢
      have Tt₁₁ := Tt₁₀.same S₁₁
      refine Ev.listcomp (by kernel_rfl) ?_
      refine Itb.list ?_
      repeat sizeOf_list_dec
      refine ListP.intro (S₁₁ _ _ hll') ?_
      have hl5 : ∀ p ∈ lastL asked, p.1 < 5 := fun p hp => by
        obtain ⟨a, ha, rfl⟩ := lastL_mem hp; exact h5a a ha
      have hll10 : (lastL asked).length ≤ 10 := by rw [← hal]; exact lastL_len asked
      refine CLoop.pure nmMV (fun d => ((d.filter (inT T)).map nmS).map .str) (lastL asked) [("taken", .ref xt)] rfl ?k11 ?b11 (.cons (by kernel_rfl) .nil)
      case b11 =>
        intro p done rest hd
        have hdl := congrArg List.length hd
        rw [List.length_append, List.length_cons] at hdl
        have hfl := List.length_filter_le (inT T) done
        refine ⟨S₁₁ _ _ hll', by rw [List.length_map, List.length_map]; lia, Asg.name (by kernel_rfl) ?_⟩
        refine Tests.one_ ?_
        repeat sizeOf_list_dec
        refine Op.in_inst W (S₁₁ _ _ hxt₁₀) (dun_contains _) ?_
        refine Fn.eqs ((fn_contains (n := n) W Tt₁₁ (hl5 p (by rw [hd]; simp))).le (by lia)).toFn ?_
        repeat sizeOf_list_dec
        rw [show (getRow T p.1).isSome = inT T p from rfl]
        by_cases q : inT T p = true
        · rw [q]
          repeat sizeOf_list_dec
          exact ⟨rfl, .cons (by array_get_dec) .nil, by dsimp only; rw [List.filter_append, List.filter_cons_of_pos q, List.map_append, List.map_append]; rfl⟩
        · rw [Bool.eq_false_iff.mpr q]
          exact ⟨rfl, .cons (by array_get_dec) .nil, by dsimp only; rw [List.filter_append, List.filter_cons_of_neg q]; simp⟩
      refine ⟨S₁₁ _ _ hll', fun D₂ hD₂ => ?_⟩
      have S₁₂ := Same.new (o := .list ((((lastL asked).filter (inT T)).map nmS).map .str)) hD₂
      have hok' : ∀ s ∈ ((lastL asked).filter (inT T)).map nmS, PyData.canLay0 (.str s) = true := fun s hs => by
        obtain ⟨p, hp, rfl⟩ := List.mem_map.mp hs
        exact nm_ok _ (hl5 p (List.mem_filter.mp hp).1) _
      refine Op.ne_data (.list (S₁₂ _ _ hD₁') (PDL_strs _ _)) (.list Mu.set_self (PDL_strs _ _)) (strsD_ok _ hok') (strsD_ok _ hok') ?_
      rw [show PyData.eqv (.list ((((lastL asked).filter (inT T)).map nmS).map .str)) (.list ((((lastL asked).filter (inT T)).map nmS).map .str)) = true from strsD_self _]
      have S₁₃ := S₁₁.trans S₁₂
      generalize (μ₁₁.set D₂ (.list ((((lastL asked).filter (inT T)).map nmS).map .str))) = μ₁₂ at S₁₃ ⊢
      have Tt₁₂ := Tt₁₀.same S₁₃
      have hll₁₂ := S₁₃ _ _ hll'
      clear S₁₁ S₁₂ hD₁ hD₁' hD₂ ek Tt₁₁ hok' hll'
      repeat sizeOf_list_dec
      rw [if_neg (by decide)]
      sizeOf_list_dec
      refine Ev.call_b W (by kernel_rfl) (b_none _ _ (by simp)) bb_len rfl ?_
      sizeOf_list_dec
      refine Ev.meth W ?_
      repeat sizeOf_list_dec
      refine MethP.intro (f := 196) (S₁₃ _ _ hxt₁₀) (methIn_keys _) (by kernel_rfl) ?_
      repeat sizeOf_list_dec
      refine Fn.news ((fn_keys (n := n) W Tt₁₂).le (by lia)).toFn fun D₃ hD₃ => ?_
      have S₁₄ := Same.new (o := .list (T.map fun r => MV.str (nm r.1.1 r.1.2))) hD₃
      repeat sizeOf_list_dec
      refine Fn.len_list Mu.set_self (by rw [List.length_map]; lia) ?_
      repeat sizeOf_list_dec
      refine Ev.call_b W (by kernel_rfl) (b_none _ _ (by simp)) bb_min rfl ?_
      repeat sizeOf_list_dec
      refine Ev.call_b W (by kernel_rfl) (b_none _ _ (by simp)) bb_len rfl ?_
      repeat sizeOf_list_dec
      refine Fn.len_list (S₁₄ _ _ hll₁₂) (by rw [List.length_map]; lia) ?_
      repeat sizeOf_list_dec
      refine Fn.min2 ?_
      repeat sizeOf_list_dec
      have hlast := Z.last.len
      rw [List.length_map, List.length_map, if_neg (by simp; lia)]
      have S₁₅ := S₁₃.trans S₁₄
      generalize (μ₁₂.set D₃ (.list (T.map fun r => MV.str (nm r.1.1 r.1.2)))) = μ₁₅ at S₁₅ ⊢
      have Ts := Ts₁₀.same S₁₅
      have Tt := Tt₁₀.same S₁₅
      have hdk := S₁₅ _ _ hdk₁₀
      have hxt := S₁₅ _ _ hxt₁₀
      clear Ts₁₀ Tt₁₀ hdk₁₀ hxt₁₀ S₁₃ S₁₄ S₁₅ Tt₁₂ hll₁₂ hD₃
      -- the sum of the second
      repeat sizeOf_list_dec
      refine Ev.call_b W (by kernel_rfl) (b_none _ _ (by simp)) bb_sum rfl ?_
      sizeOf_list_dec
      refine Ev.listcomp (by kernel_rfl) ?_
      refine Itb.list ?_
      refine Ev.meth W ?_
      repeat sizeOf_list_dec
      refine MethP.intro (f := 201) (hxt) (methIn_values _) (by kernel_rfl) ?_
      repeat sizeOf_list_dec
      refine Fn.news ((fn_values (n := n) W Tt).le (by lia)).toFn fun D₁ hD₁ => ?_
      have S₁₆ := Same.new (o := .list (T.map fun r => MV.str (txt r.2.1 r.2.2))) hD₁
      have hD₁' : (μ₁₅.set D₁ (.list (T.map fun r => MV.str (txt r.2.1 r.2.2)))) D₁ = some (.list (T.map fun r => MV.str (txt r.2.1 r.2.2))) := Mu.set_self
      generalize (μ₁₅.set D₁ (.list (T.map fun r => MV.str (txt r.2.1 r.2.2)))) = μ₁₆ at S₁₆ hD₁' ⊢
      refine ListP.intro (hD₁') ?_
      refine CLoop.pure (fun r : Row => MV.str (txt r.2.1 r.2.2)) (fun d => ((d.map sizeR).map (fun c : Nat => (c : Int))).map .int) T [] rfl ?k12 ?b12 .nil
      case b12 =>
        intro r done rest hd
        have hdl := congrArg List.length hd
        rw [List.length_append, List.length_cons] at hdl
        obtain ⟨r5, rf, rb⟩ := Z.rT.le r (by rw [hd]; simp)
        refine ⟨hD₁', by rw [List.length_map, List.length_map, List.length_map]; lia, Asg.name (by kernel_rfl) ?_⟩
        refine Tests.nil_ ?_
        repeat sizeOf_list_dec
        refine Ev.call_b W (by kernel_rfl) (b_none _ _ (by simp)) bb_len rfl ?_
        repeat sizeOf_list_dec
        refine Fn.len_str (by rw [txt_len]; lia) ?_
        repeat sizeOf_list_dec
        have e : (((txt r.2.1 r.2.2).length : Int) - 1) = (sizeR r : Int) := by rw [txt_len]; unfold sizeR; lia
        rw [e]
        exact ⟨rfl, .nil, by dsimp only; rw [List.map_append, List.map_append, List.map_append]; rfl⟩
      refine ⟨hD₁', fun D₂ hD₂ => ?_⟩
      have S₁₇ := S₁₆.trans (Same.new (o := .list (((T.map sizeR).map (fun c : Nat => (c : Int))).map .int)) hD₂)
      repeat sizeOf_list_dec
      refine Fn.sum_list Mu.set_self ?_
      generalize (μ₁₆.set D₂ (.list (((T.map sizeR).map (fun c : Nat => (c : Int))).map .int))) = μ₁₇ at S₁₇ ⊢
      repeat sizeOf_list_dec
      rw [sum_cast, show (T.map sizeR).sum = 10 from Z.sumT, if_neg (by decide)]
      have Ts₁₇ := Ts.same S₁₇
      have Tt₁₇ := Tt.same S₁₇
      have hdk₁₇ := S₁₇ _ _ hdk
      have hxt₁₇ := S₁₇ _ _ hxt
      clear Ts Tt hdk hxt S₁₆ S₁₇ hD₁ hD₁' hD₂
      -- each row of the second
      repeat sizeOf_list_dec
      refine Ex.for_ ?_
      refine Itb.list ?_
      refine Ev.meth W ?_
      repeat sizeOf_list_dec
      refine MethP.intro (f := 208) (hxt₁₇) (methIn_items _) (by kernel_rfl) ?_
      repeat sizeOf_list_dec
      refine Fn.news ((fn_items (n := n) W Tt₁₇).le (by lia)).toFn fun D₁ hD₁ => ?_
      have S₁₈ := Same.new (o := .list (T.map rowMV)) hD₁
      have hD₁' : (μ₁₇.set D₁ (.list (T.map rowMV))) D₁ = some (.list (T.map rowMV)) := Mu.set_self
      generalize (μ₁₇.set D₁ (.list (T.map rowMV))) = μ₁₈ at S₁₈ hD₁' ⊢
      refine ListP.intro (hD₁') ?_
      refine Loop.ind rowMV (inv13 T room t xs dk xt ll μ₁₈) ?k13 ?b13 T _ _ ⟨fun r hr => hr, Same.refl, rfl⟩ _ sgL3_sub
      case b13 =>
        rintro r rest σ μ' ⟨hin, S, rfl⟩
        have hrT := hin r (.head _)
        obtain ⟨r5, rf, rb⟩ := Z.rT.le r hrT
        have hsz := inv_size Z.inv Z.rT hrT
        have hs10 : sizeR r ≤ 10 := by rw [← Z.sumT]; exact size_le_total hrT
        have hdk := S _ _ (S₁₈ _ _ hdk₁₇)
        generalize hf : r.2.1 = f at *
        generalize hb : r.2.2 = b at *
        have hfb : f + b = kept R r.1.1 + t := by rw [← hsz]; unfold sizeR; lia
        have hfb10 : f + b ≤ 10 := by unfold sizeR at hs10; lia
        have hrow : rowMV r = .tup [.str (nm r.1.1 r.1.2), .str (txt f b)] := by rw [← hf, ← hb]; rfl
        rw [hrow]
        refine ⟨S _ _ hD₁', Asg.tuple (Asgs.cons (Asg.name (by kernel_rfl) (Asgs.cons (Asg.name (by kernel_rfl) (Asgs.nil ?_)))))⟩
        have hlen := txt_len f b
        repeat sizeOf_list_dec
        refine Ev.meth_b ?_
        repeat sizeOf_list_dec
        refine MethB.intro (BM.str PySem.F.slot_str_index PySem.F.type_str_index) ?_
        repeat sizeOf_list_dec
        refine Fn.str_index (txt_ix f rf b rb) ?_
        repeat sizeOf_list_dec
        refine Ev.call_b W (by kernel_rfl) (b_none _ _ (by simp)) bb_len rfl ?_
        repeat sizeOf_list_dec
        refine Fn.len_str (by lia) ?_
        repeat sizeOf_list_dec
        rw [show (((txt f b).length : Int) - 1 - (f : Int)) = (b : Int) by lia]
        refine Ev.meth_b ?_
        repeat sizeOf_list_dec
        refine MethB.intro (BM.dict hdk PySem.F.slot_dict_get PySem.F.type_dict_get) ?_
        repeat sizeOf_list_dec
        refine Ev.meth_b ?_
        repeat sizeOf_list_dec
        refine MethB.intro (BM.str PySem.F.slot_str_lower PySem.F.type_str_lower) ?_
        repeat sizeOf_list_dec
        refine Fn.lower (nm_fit _ r5 _).1 ?_
        rw [nm_lower _ r5]
        repeat sizeOf_list_dec
        refine Fn.dict_get hdk hnd hmod ?_
        rw [kept_look r5 hR5]
        repeat sizeOf_list_dec
        rw [if_neg (by simp; lia)]
        repeat sizeOf_list_dec
        refine Ev.call_name W (by kernel_rfl) (g_strip _) (k_strip _) ?_
        repeat sizeOf_list_dec
        refine Fn.eqs ((fn_strip (n := n) W (f := f) (b := b) (k := t) (by lia) (by lia) (by lia)).le (by lia)).toFn ?_
        refine Ev.call_name W (by kernel_rfl) (g_text _) (k_text _) ?_
        repeat sizeOf_list_dec
        refine Ev.call_b W (by kernel_rfl) (b_none _ _ (by simp)) bb_max rfl ?_
        repeat sizeOf_list_dec
        refine Fn.max2 ?_
        repeat sizeOf_list_dec
        refine Ev.call_b W (by kernel_rfl) (b_none _ _ (by simp)) bb_max rfl ?_
        repeat sizeOf_list_dec
        refine Fn.max2 ?_
        repeat sizeOf_list_dec
        rw [show max (0 : Int) ((f : Int) - (t : Int)) = ((f - t : Nat) : Int) by lia, show ((b : Int) - max (0 : Int) ((t : Int) - (f : Int))) = ((b - (t - f) : Nat) : Int) by lia]
        refine Fn.eqs ((fn_text (n := n) W (f := f - t) (b := b - (t - f)) (by lia) (by lia)).le (by lia)).toFn ?_
        repeat sizeOf_list_dec
        rw [if_neg (by simp)]
        repeat sizeOf_list_dec
        refine Ev.call_name W (by kernel_rfl) (g_strip _) (k_strip _) ?_
        repeat sizeOf_list_dec
        rw [show ((t : Int) + 11) = ((t + 11 : Nat) : Int) from rfl]
        refine Fn.eqs ((fn_strip (n := n) W (f := f) (b := b) (k := t + 11) (by lia) (by lia) (by lia)).le (by lia)).toFn ?_
        repeat sizeOf_list_dec
        rw [tab_txt, show f - (t + 11) = 0 by lia, show b - (t + 11 - f) = 0 by lia, if_neg (by simp)]
        repeat sizeOf_list_dec
        refine Ex.assign_pair (by kernel_rfl) (by kernel_rfl) ?_ ?hw
        case hw =>
          intro env h1 h2 h3
          unfold swappedStores
          simp only [h1, List.filterMap_cons, List.filterMap_nil, h2, h3]
          kernel_rfl
        repeat sizeOf_list_dec
        refine Ev.call_name W (by kernel_rfl) (g_White _) (keep_W _) ?_
        repeat sizeOf_list_dec
        have ht : txt f b = lst (sp f ++ 9 :: sp b) := rfl
        have hlen2 : (sp f ++ 9 :: sp b).length = f + 1 + b := by rw [List.length_append, List.length_cons, sp_len, sp_len]; lia
        rw [ht]
        refine ((fn_White (n := n) W (cs := sp f ++ 9 :: sp b) (sp_cs _ _) (by rw [hlen2]; lia)).le (by lia)).mono ?_
        rintro _ μ₃' ⟨y, rfl, Y, S₄', ny⟩
        rw [← ht]
        obtain ⟨dy, cs, hy, hcs, hzc⟩ := Y.inst
        have w0 := ws_txt f b
        repeat sizeOf_list_dec
        refine ⟨_, _, rfl, ?_⟩
        show Exs _ _ _ _ _ _ _ _ _
        repeat sizeOf_list_dec
        refine Ev.field W ?_
        repeat sizeOf_list_dec
        refine FieldP.intro (hy) (fieldIn_W _ _ (by simp)) (wsF_look cs).1 rfl ?_
        repeat sizeOf_list_dec
        refine Ev.field W ?_
        repeat sizeOf_list_dec
        refine FieldP.intro (hy) (fieldIn_W _ _ (by simp)) (wsF_look cs).2.1 rfl ?_
        repeat sizeOf_list_dec
        refine Ev.meth W ?_
        repeat sizeOf_list_dec
        refine MethP.intro (f := 76) (hy) (methIn_indent _) (by kernel_rfl) ?_
        repeat sizeOf_list_dec
        rw [show ((t : Int) + 1) = ((t + 1 : Nat) : Int) from rfl]
        refine Fn.eqs ((fn_indent (n := n) W Y (ts := t + 1) (by lia) (by lia)).le (by lia)).toFn ?_
        repeat sizeOf_list_dec
        refine ⟨by simp, ?_⟩
        repeat sizeOf_list_dec
        refine Ev.call_b W (by kernel_rfl) (b_none _ _ (by simp)) bb_len rfl ?_
        repeat sizeOf_list_dec
        refine Fn.len_str (by lia) ?_
        repeat sizeOf_list_dec
        refine Op.div_int (by lia) (by lia) ?_
        rw [fdiv_cast]
        repeat sizeOf_list_dec
        refine Op.mul_int ?_ ?_
        · have h2 : f / (t + 1) ≤ f := Nat.div_le_self ..
          generalize f / (t + 1) = q at h2 ⊢; lia
        repeat sizeOf_list_dec
        refine ⟨by simp, ?_⟩
        have hv : ((((f / (t + 1) : Nat) : Int) + 1) * ((t + 1 : Nat) : Int) + (b : Int)) = ((indentOf (ws (sp f ++ 9 :: sp b)) (t + 1) : Nat) : Int) := by
          rw [indent_txt]; simp
        rw [hv, hcs, w0, hlen]
        refine Op.ne_data (PD_trip _ (((f + 1 + b : Nat) : Int), 1, _)) (PD_trip _ (((f + 1 + b : Nat) : Int), 1, _)) (trip_ok _) (trip_ok _) ?_
        rw [trip_self]
        repeat sizeOf_list_dec
        rw [if_neg (by decide)]
        repeat sizeOf_list_dec
        exact ⟨sgL3 room t xs dk xt ll, .cons (by array_get_dec) (.cons (by array_get_dec) (.cons (by array_get_dec) (.cons (by array_get_dec) (.cons (by array_get_dec) (.cons (by array_get_dec) (.cons (by array_get_dec) .nil)))))), fun q hq => hin q (.tail _ hq), S.trans S₄', rfl⟩
      rintro σ μ' ⟨-, S, rfl⟩
      refine ⟨S _ _ hD₁', fun σ' hs => ?_⟩
      refine Exs.sub ?_ hs
      have S₁₉ := S₁₈.trans S
      have Ts := Ts₁₇.same S₁₉
      have Tt := Tt₁₇.same S₁₉
      have hdk := S₁₉ _ _ hdk₁₇
      clear hs Ts₁₇ Tt₁₇ hdk₁₇ hxt₁₇ S₁₈ S S₁₉ hD₁ hD₁'
      -- counts
      repeat sizeOf_list_dec
      refine Ev.over_values W (by kernel_rfl) (b_none _ _ (by simp)) bb_list rfl ?_
      repeat sizeOf_list_dec
      refine ⟨_, _, rfl, hdk, hnd, hmod, ?_⟩
      refine VT.list hdk hnd (by rw [List.length_map]; lia) fun D₁ hD₁ => ?_
      have ev : (R.map keptE).map (·.2) = intsMV (R.map sizeR) := by unfold intsMV; rw [List.map_map, List.map_map]; rfl
      rw [ev]
      have S₂₀ := Same.new (o := .list (intsMV (R.map sizeR))) hD₁
      have hD₁' : (μ'.set D₁ (.list (intsMV (R.map sizeR)))) D₁ = some (.list (intsMV (R.map sizeR))) := Mu.set_self
      generalize (μ'.set D₁ (.list (intsMV (R.map sizeR)))) = μ₂₀ at S₂₀ hD₁' ⊢
      repeat sizeOf_list_dec
      refine ⟨by decide, fun D₂ hD₂ => ?_⟩
      have S₂₁ := Same.new (o := .list [.int 0]) hD₂
      have hD₂' : (μ₂₀.set D₂ (.list [.int 0])) D₂ = some (.list [.int 0]) := Mu.set_self
      generalize (μ₂₀.set D₂ (.list [.int 0])) = μ₂₁ at S₂₁ hD₂' ⊢
      repeat sizeOf_list_dec
      refine Ev.call_b W (by kernel_rfl) (b_none _ _ (by simp)) bb_len rfl ?_
      repeat sizeOf_list_dec
      refine Fn.len_dict (S₂₁ _ _ (S₂₀ _ _ hdk)) hnd (fun zz zz => hmod) (by rw [List.length_map]; lia) ?_
      repeat sizeOf_list_dec
      rw [List.length_map]
      refine Op.mul_list1 hD₂' (by lia) (by lia) fun D₃ hD₃ => ?_
      rw [show ((room : Int) + 1 - (R.length : Int)).toNat = room + 1 - R.length by lia]
      have S₂₂ := Same.new (o := .list (List.replicate (room + 1 - R.length) (.int 0))) hD₃
      have hD₃' : (μ₂₁.set D₃ (.list (List.replicate (room + 1 - R.length) (.int 0)))) D₃ = some (.list (List.replicate (room + 1 - R.length) (.int 0))) := Mu.set_self
      generalize (μ₂₁.set D₃ (.list (List.replicate (room + 1 - R.length) (.int 0)))) = μ₂₂ at S₂₂ hD₃' ⊢
      refine Op.add_list (S₂₂ _ _ (S₂₁ _ _ hD₁')) hD₃' (by rw [intsMV_len, List.length_map]; lia) (by rw [List.length_replicate]; lia) fun lc hlc => ?_
      have ep : intsMV (R.map sizeR) ++ List.replicate (room + 1 - R.length) (MV.int 0) = intsMV (padded room R) := by
        unfold intsMV padded; rw [List.map_append, List.map_replicate]; rfl
      rw [ep]
      have S₂₃ := ((S₂₀.trans S₂₁).trans S₂₂).trans (Same.new (o := .list (intsMV (padded room R))) hlc)
      have hlc' : (μ₂₂.set lc (.list (intsMV (padded room R)))) lc = some (.list (intsMV (padded room R))) := Mu.set_self
      generalize (μ₂₂.set lc (.list (intsMV (padded room R)))) = μ₂₃ at S₂₃ hlc' ⊢
      have Ts₂₃ := Ts.same S₂₃
      have Tt₂₃ := Tt.same S₂₃
      clear Ts Tt hdk S₂₀ S₂₁ S₂₂ S₂₃ hD₁ hD₁' hD₂ hD₂' hD₃ hD₃' hlc ev ep
      obtain ⟨ds, hxs⟩ := Ts₂₃.inst
      obtain ⟨dt', hxt⟩ := Tt₂₃.inst
      have hle : ∀ {rows : List Row} {k : Nat}, RowsT k rows → k ≤ 10 → ∀ p ∈ rows.map (·.2), p.1 ≤ 10 ∧ p.2 ≤ 10 := fun h hk p hp => by
        obtain ⟨r, hr, rfl⟩ := List.mem_map.mp hp
        obtain ⟨_, h1, h2⟩ := h.le r hr
        exact ⟨by lia, by lia⟩
      have hlv : ∀ rows : List Row, (rows.map fun r => MV.str (txt r.2.1 r.2.2)) = (rows.map (·.2)).map valMV' := fun rows => by rw [List.map_map]; rfl
      have hpad : ∀ rows : List Row, ((rows.map (·.2)).map (fun p => p.1 + p.2) ++ List.replicate (room + 1 - (rows.map (·.2)).length) 0) = padded room rows := fun rows => by
        rw [List.map_map, List.length_map]; rfl
      have lenF : (leadL (padded room R)).length ≤ 400 := by
        rw [leadL_len, padded_sum, padded_len (by lia)]
        have := Z.sumR; lia
      have lenB : (leadL (padded room T)).length ≤ 400 := by
        rw [leadL_len, padded_sum, padded_len (by lia), Z.sumT]; lia
      -- fewer
      repeat sizeOf_list_dec
      refine Ev.call_name W (by kernel_rfl) (g_White _) (keep_W _) ?_
      sizeOf_list_dec
      refine Ev.call_name W (by kernel_rfl) (g_lead _) (k_lead _) ?_
      sizeOf_list_dec
      refine Ev.meth W ?_
      repeat sizeOf_list_dec
      refine MethP.intro (f := 201) (hxs) (methIn_values _) (by kernel_rfl) ?_
      repeat sizeOf_list_dec
      refine Fn.news ((fn_values (n := n) W Ts₂₃).le (by lia)).toFn fun D₁ hD₁ => ?_
      rw [hlv]
      have S₂₄ := Same.new (o := .list ((R.map (·.2)).map valMV')) hD₁
      repeat sizeOf_list_dec
      refine ((fn_lead (n := n) W (room := room) Mu.set_self (hle Z.rR (Nat.le_refl _)) (by rw [List.length_map]; lia) hr3).le (by lia)).toFn.mono ?_
      rintro _ μ₂₅ ⟨rfl, S₂₅⟩
      rw [hpad]
      repeat sizeOf_list_dec
      refine ((fn_White (n := n) W (leadL_cs _) (by lia)).le (by lia)).mono ?_
      rintro _ μ₂₆ ⟨xf, rfl, Wf, S₂₆, -⟩
      have S := (S₂₄.trans S₂₅).trans S₂₆
      have Tt := Tt₂₃.same S
      have hxt := S _ _ hxt
      have hlc := S _ _ hlc'
      clear S S₂₄ S₂₅ S₂₆ hD₁ hxs Tt₂₃ hlc' Ts₂₃
      -- more
      repeat sizeOf_list_dec
      refine Ev.call_name W (by kernel_rfl) (g_White _) (keep_W _) ?_
      sizeOf_list_dec
      refine Ev.call_name W (by kernel_rfl) (g_lead _) (k_lead _) ?_
      sizeOf_list_dec
      with_reducible refine Ev.slice ?_ ?hslice16
      case hslice16 => (intro _ _; exact ⟨_, rfl⟩)
      refine Ev.meth W ?_
      repeat sizeOf_list_dec
      refine MethP.intro (f := 201) (hxt) (methIn_values _) (by kernel_rfl) ?_
      repeat sizeOf_list_dec
      refine Fn.news ((fn_values (n := n) W Tt).le (by lia)).toFn fun D₁ hD₁ => ?_
      have S₂₄ := Same.new (o := .list (T.map fun r => MV.str (txt r.2.1 r.2.2))) hD₁
      show Ev _ _ _ _ _ _ _ _ _
      repeat sizeOf_list_dec
      refine ⟨_, rfl, ?_⟩
      show SliceT _ _ _ _ _ _ _ _ _ _
      refine SliceT.list (LView.mu Mu.set_self) Takes.rev (by rw [List.length_map]; lia) fun D₂ hD₂ => ?_
      rw [← List.map_reverse, hlv T.reverse]
      have S₂₅ := S₂₄.trans (Same.new (o := .list ((T.reverse.map (·.2)).map valMV')) hD₂)
      repeat sizeOf_list_dec
      have hrv : ∀ p ∈ T.reverse.map (·.2), p.1 ≤ 10 ∧ p.2 ≤ 10 := fun p hp => hle Z.rT (Nat.le_refl _) p (by rw [List.map_reverse] at hp; exact List.mem_reverse.mp hp)
      have hrl : (T.reverse.map (·.2)).length ≤ room + 1 := by rw [List.length_map, List.length_reverse]; lia
      refine ((fn_lead (n := n) W (room := room) Mu.set_self hrv hrl hr3).le (by lia)).toFn.mono ?_
      rintro _ μ₂₅ ⟨rfl, S₂₆⟩
      rw [hpad]
      have eR : padded room T.reverse = T.reverse.map sizeR ++ List.replicate (room + 1 - T.length) 0 := by unfold padded; rw [List.length_reverse]
      repeat sizeOf_list_dec
      refine ((fn_White (n := n) W (leadL_cs _) (by
        rw [leadL_len, eR, perm_sum (padded_rev T), (padded_rev (room := room) T).length_eq, padded_sum, padded_len (by lia), Z.sumT]; lia)).le (by lia)).mono ?_
      rintro _ μ₂₇ ⟨xm, rfl, Wm, S₂₇, -⟩
      have S := (S₂₅.trans S₂₆).trans S₂₇
      have Tt₂₇ := Tt.same S
      have hxt₂₇ := S _ _ hxt
      have hlc₂₇ := S _ _ hlc
      have Wf₂₇ := Wf.same S
      clear S S₂₄ S₂₅ S₂₆ S₂₇ hD₁ hD₂ hxt Tt hlc Wf
      -- behind
      repeat sizeOf_list_dec
      refine Ev.call_name W (by kernel_rfl) (g_White _) (keep_W _) ?_
      repeat sizeOf_list_dec
      refine Ev.call_name W (by kernel_rfl) (g_lead _) (k_lead _) ?_
      sizeOf_list_dec
      refine Ev.meth W ?_
      repeat sizeOf_list_dec
      refine MethP.intro (f := 201) (hxt₂₇) (methIn_values _) (by kernel_rfl) ?_
      repeat sizeOf_list_dec
      refine Fn.news ((fn_values (n := n) W Tt₂₇).le (by lia)).toFn fun D₁ hD₁ => ?_
      rw [hlv]
      have S₂₈ := Same.new (o := .list ((T.map (·.2)).map valMV')) hD₁
      repeat sizeOf_list_dec
      refine ((fn_lead (n := n) W (room := room) Mu.set_self (hle Z.rT (Nat.le_refl _)) (by rw [List.length_map]; lia) hr3).le (by lia)).toFn.mono ?_
      rintro _ μ₂₈ ⟨rfl, S₂₉⟩
      rw [hpad]
      repeat sizeOf_list_dec
      refine Op.add_str (by rw [lst_len]; show _ + 1 ≤ _; lia) ?_
      rw [sp_lit, lst_app]
      repeat sizeOf_list_dec
      refine ((fn_White (n := n) W (cs := leadL (padded room T) ++ [32]) (fun c hc => by
        rcases List.mem_append.mp hc with hc | hc
        · exact leadL_cs _ c hc
        · exact .inl (List.mem_singleton.mp hc)) (by rw [List.length_append]; simp; lia)).le (by lia)).mono ?_
      rintro _ μ₃₀ ⟨xb, rfl, Wb, S₃₀, -⟩
      have S := (S₂₈.trans S₂₉).trans S₃₀
      have Wf := Wf₂₇.same S
      have Wm := Wm.same S
      have hlc := S _ _ hlc₂₇
      clear S S₂₈ S₂₉ S₃₀ hD₁ hxt₂₇ Tt₂₇ hlc₂₇ Wf₂₇
      -- equal
      repeat sizeOf_list_dec
      refine Ev.meth W ?_
      repeat sizeOf_list_dec
      obtain ⟨df, cf, hxf, -, -⟩ := Wf.inst
      refine MethP.intro (f := 83) (hxf) (methIn_equal _) (by kernel_rfl) ?_
      repeat sizeOf_list_dec
      refine Fn.eqs ((fn_equal (n := n) W Wf Wm).le (by lia)).toFn ?_
      repeat sizeOf_list_dec
      have em : decide ((ws (leadL (padded room R))).count = (ws (leadL (padded room T.reverse))).count ∧ (ws (leadL (padded room R))).b = (ws (leadL (padded room T.reverse))).b) = (t == 0) := by
        rw [ws_lead, ws_lead, eR, ← more_eq Z.inv Z.rR Z.rT Z.sumR Z.sumT]
        simp
      have et : ((t : Int) == 0) = (t == 0) := by rw [Bool.eq_iff_iff]; simp
      rw [em, et, if_neg (by simp)]
      repeat sizeOf_list_dec
      refine Ev.meth W ?_
      repeat sizeOf_list_dec
      refine MethP.intro (f := 83) (hxf) (methIn_equal _) (by kernel_rfl) ?_
      repeat sizeOf_list_dec
      refine Fn.eqs ((fn_equal (n := n) W Wf Wb).le (by lia)).toFn ?_
      repeat sizeOf_list_dec
      rw [ws_lead, ws_behind, if_neg (by simp)]
      -- the witness
      repeat sizeOf_list_dec
      refine Ev.meth W ?_
      repeat sizeOf_list_dec
      refine MethP.intro (f := 90) (hxf) (methIn_witness _) (by kernel_rfl) ?_
      repeat sizeOf_list_dec
      refine ((fn_witness (n := n) W Wf Wb).le (by lia)).toFn.mono ?_
      rintro _ μ₃₁ ⟨L₁, js, rfl, hL₁, S₃₁, hjs⟩
      refine Ev.call_name W (by kernel_rfl) (g_witness _) (k_witness _) ?_
      repeat sizeOf_list_dec
      refine ((fn_lawwit (n := n) W (S₃₁ _ _ hlc) (by rw [padded_len (by lia)]; lia) (by rw [padded_len (by lia)]; lia) (fun a ha => ?ga) (by lia)).le (by lia)).toFn.mono ?_
      case ga =>
        have h1 : a ≤ (padded room R).sum := le_sum_of ha
        rw [padded_sum] at h1
        have := Z.sumR; lia
      rintro _ μ₃₂ ⟨L₂, M, rfl, hL₂, hM, hmax, S₃₂⟩
      obtain ⟨n1, n2, n3⟩ := top_len Z.inv Z.rR Z.rT Z.sumR hM hmax
      have hw : ∀ j, witMV (ws (leadL (padded room R))) (ws (leadL (padded room T) ++ [32])) j = dueMV (padded room R) t j := fun j => by
        unfold witMV dueMV lowN
        rw [indent_lead, indent_behind, high_eq Z.inv Z.rR Z.rT, List.map_map]; rfl
      have hjs' : js = List.range (M + t + 1) := by
        rw [hjs, ws_lead, ws_behind]
        dsimp only
        rw [n1, n2, top_n n3]
        refine List.filter_eq_self.mpr fun j zz => decide_eq_true ?_
        have := high_gt Z.inv Z.rR Z.rT (1 + j)
        rw [ws_lead, ws_behind] at this
        exact Nat.ne_of_lt this
      have hL₁' := S₃₂ _ _ hL₁
      rw [hjs', List.map_congr_left (fun j zz => hw j)] at hL₁'
      have hd3 : ∀ l : List Nat, l.map (dueMV (padded room R) t) = (l.map fun j : Nat => (((1 + j : Nat) : Int), ((lowN (padded room R) (1 + j) : Nat) : Int), ((lowN ((padded room R).map (· + t)) (1 + j) + 1 : Nat) : Int))).map tripMV := fun l => by rw [List.map_map]; rfl
      rw [hd3] at hL₁' hL₂
      refine Op.eq_data (.list hL₁' (PDL_trip _ _)) (.list hL₂ (PDL_trip _ _)) (trips_ok _) (trips_ok _) ?_
      exact congrArg MV.bool (trips_self _)
    · intro a done rest hd
      have hdl := congrArg List.length hd
      rw [List.length_append, List.length_cons] at hdl
      have ha5 := h5a a (by rw [hd]; simp)
      refine ⟨hla₅, by rw [List.length_map, List.length_map]; lia, Asg.tuple (Asgs.cons (Asg.name (by kernel_rfl) (Asgs.cons (Asg.name (by kernel_rfl) (Asgs.nil ?_)))))⟩
      refine Tests.nil_ ?_
      refine Ev.meth_b ?_
      repeat sizeOf_list_dec
      refine MethB.intro (BM.str PySem.F.slot_str_lower PySem.F.type_str_lower) ?_
      repeat sizeOf_list_dec
      refine Fn.lower (nm_fit _ ha5 _).1 ?_
      rw [nm_lower _ ha5]
      exact ⟨rfl, .nil, by dsimp only; rw [List.map_append, List.map_append]; rfl⟩
  · rintro r rest acc σ _ ⟨done, hd, rfl, rfl, rfl⟩
    have hdl := congrArg List.length hd
    rw [List.length_append, List.length_cons] at hdl
    have hr5 := hR5 r (by rw [hd]; simp)
    obtain ⟨_, hf, hb⟩ := Z.rR.le r (by rw [hd]; simp)
    refine ⟨hD₄', by rw [List.length_map]; lia, Asg.tuple (Asgs.cons (Asg.name (by kernel_rfl) (Asgs.cons (Asg.name (by kernel_rfl) (Asgs.nil ?_)))))⟩
    refine Ev.meth_b ?_
    repeat sizeOf_list_dec
    refine MethB.intro (BM.str PySem.F.slot_str_lower PySem.F.type_str_lower) ?_
    repeat sizeOf_list_dec
    refine Fn.lower (nm_fit _ hr5 _).1 ?_
    rw [nm_lower _ hr5]
    refine ⟨_, rfl, ?_⟩
    repeat sizeOf_list_dec
    refine Ev.call_b W (by kernel_rfl) (b_none _ _ (by simp)) bb_len rfl ?_
    repeat sizeOf_list_dec
    refine Fn.len_str (by rw [txt_len]; lia) ?_
    repeat sizeOf_list_dec
    have hno : r.1.1 ∉ names done := by
      have := Z.rR.nodup
      rw [hd, List.map_append, List.map_cons] at this
      intro m
      have := (List.nodup_append.mp this).2.2 _ m _ (.head _)
      exact this rfl
    refine ⟨[], .nil, done ++ [r], by rw [hd]; simp, ?_, rfl, rfl⟩
    rw [put_new (kept_notin hr5 (fun x hx => hR5 x (by rw [hd]; exact List.mem_append.mpr (.inl hx))) hno), List.map_append]
    have e : (((txt r.2.1 r.2.2).length : Int) - 1) = (sizeR r : Int) := by rw [txt_len]; unfold sizeR; lia
    rw [e]; rfl
end
end Mine
namespace Mine
theorem g_law (P : Params) : nsIn (frag.heap_1 P) mainGlobals "law" = some (some (.ref 301)) := by kernel_rfl
theorem hr0 {P : Params} {base : Heap} : HR P base (fun _ => none) base :=
  ⟨fun _ _ e => e, (fun _ _ e => by cases e), (fun _ m => by obtain ⟨_, _, e, _⟩ := m; cases e), (fun _ _ _ _ e => by cases e)⟩
theorem room0 : Room 6 callerA := ⟨rfl, by decide, by decide⟩
/- The names that stand here keep the head's tool from laying twins of its biggest objects under them: their proofs alone would fill some 30 MB. -/
theorem holds0.tw10043254653767803432 : True := trivial
theorem holds0.tw10067012679467414606 : True := trivial
theorem holds0.tw10105887542964816620 : True := trivial
theorem holds0.tw10124618673950095359 : True := trivial
theorem holds0.tw10132460586496281156 : True := trivial
theorem holds0.tw10145886641612065050 : True := trivial
theorem holds0.tw10200231574131793378 : True := trivial
theorem holds0.tw10215520933613575081 : True := trivial
theorem holds0.tw10240169151808889278 : True := trivial
theorem holds0.tw10240201088330998857 : True := trivial
theorem holds0.tw10252190426390633982 : True := trivial
theorem holds0.tw10261124224942760199 : True := trivial
theorem holds0.tw10268235848259688567 : True := trivial
theorem holds0.tw10378742279877774273 : True := trivial
theorem holds0.tw10419607257514105346 : True := trivial
theorem holds0.tw10421645393006764306 : True := trivial
theorem holds0.tw10485121195700576637 : True := trivial
theorem holds0.tw10526236815457144269 : True := trivial
theorem holds0.tw10572849978050434331 : True := trivial
theorem holds0.tw1058170146271807663 : True := trivial
theorem holds0.tw10623872862439283882 : True := trivial
theorem holds0.tw10682902091530443819 : True := trivial
theorem holds0.tw10739528870228046693 : True := trivial
theorem holds0.tw10748714035117333017 : True := trivial
theorem holds0.tw10796339094392068137 : True := trivial
theorem holds0.tw1082201537792162246 : True := trivial
theorem holds0.tw10868452081785589186 : True := trivial
theorem holds0.tw10883158794018738340 : True := trivial
theorem holds0.tw10918198529100176713 : True := trivial
theorem holds0.tw10945528567567368582 : True := trivial
theorem holds0.tw10959856378549549738 : True := trivial
theorem holds0.tw10983329270108196647 : True := trivial
theorem holds0.tw11092633420798363991 : True := trivial
theorem holds0.tw11169866260543172985 : True := trivial
theorem holds0.tw1118663276843146352 : True := trivial
theorem holds0.tw112083070565579155 : True := trivial
theorem holds0.tw11210224114699704591 : True := trivial
theorem holds0.tw11224123970187284808 : True := trivial
theorem holds0.tw11257061227626780354 : True := trivial
theorem holds0.tw11281243551128031120 : True := trivial
theorem holds0.tw11288528042268854649 : True := trivial
theorem holds0.tw11311665993238175659 : True := trivial
theorem holds0.tw11313494442081096882 : True := trivial
theorem holds0.tw11375761563633531146 : True := trivial
theorem holds0.tw11408490159351186383 : True := trivial
theorem holds0.tw11418737213379167894 : True := trivial
theorem holds0.tw1153570607627278607 : True := trivial
theorem holds0.tw11539129971063844184 : True := trivial
theorem holds0.tw11543797985625774586 : True := trivial
theorem holds0.tw11581457700988371131 : True := trivial
theorem holds0.tw11640213003012251776 : True := trivial
theorem holds0.tw11667447177348080197 : True := trivial
theorem holds0.tw11696999379307830432 : True := trivial
theorem holds0.tw11765063650557328515 : True := trivial
theorem holds0.tw11791516062247157522 : True := trivial
theorem holds0.tw11802613440067467492 : True := trivial
theorem holds0.tw11835407398742153636 : True := trivial
theorem holds0.tw11845821939579541569 : True := trivial
theorem holds0.tw11853237883671102732 : True := trivial
theorem holds0.tw11965817424866281551 : True := trivial
theorem holds0.tw11967539352001349997 : True := trivial
theorem holds0.tw11988230977677287127 : True := trivial
theorem holds0.tw12054277342211369926 : True := trivial
theorem holds0.tw12100686938845846042 : True := trivial
theorem holds0.tw12234162969874731443 : True := trivial
theorem holds0.tw12261142192972175670 : True := trivial
theorem holds0.tw12302979817692839606 : True := trivial
theorem holds0.tw1231084738129037009 : True := trivial
theorem holds0.tw12411096084944001249 : True := trivial
theorem holds0.tw12623008070222866559 : True := trivial
theorem holds0.tw12744392984632948684 : True := trivial
theorem holds0.tw1282106841690058662 : True := trivial
theorem holds0.tw12824476589632196715 : True := trivial
theorem holds0.tw12826446008121342621 : True := trivial
theorem holds0.tw12838078864307571956 : True := trivial
theorem holds0.tw12847726519243438621 : True := trivial
theorem holds0.tw12856476311189669441 : True := trivial
theorem holds0.tw12881246026919223679 : True := trivial
theorem holds0.tw12912359083504036686 : True := trivial
theorem holds0.tw12983925213686411893 : True := trivial
theorem holds0.tw13053933150266739762 : True := trivial
theorem holds0.tw13077474333554409436 : True := trivial
theorem holds0.tw13145860686866537254 : True := trivial
theorem holds0.tw13171294025023896565 : True := trivial
theorem holds0.tw13176461140916208093 : True := trivial
theorem holds0.tw13228580443160913332 : True := trivial
theorem holds0.tw13319086312574924855 : True := trivial
theorem holds0.tw13334961110885535540 : True := trivial
theorem holds0.tw13393865889596838059 : True := trivial
theorem holds0.tw13402781912023153761 : True := trivial
theorem holds0.tw13403684592289786727 : True := trivial
theorem holds0.tw13581062697848768673 : True := trivial
theorem holds0.tw13696799902439936711 : True := trivial
theorem holds0.tw1371931877319343908 : True := trivial
theorem holds0.tw1372014292817427571 : True := trivial
theorem holds0.tw13747278091405578318 : True := trivial
theorem holds0.tw13757633048258186971 : True := trivial
theorem holds0.tw13788818694964318413 : True := trivial
theorem holds0.tw13811331869977753173 : True := trivial
theorem holds0.tw13911922994848993587 : True := trivial
theorem holds0.tw13913078583756187835 : True := trivial
theorem holds0.tw13953914957570561735 : True := trivial
theorem holds0.tw13969917696924643065 : True := trivial
theorem holds0.tw14046711190539478163 : True := trivial
theorem holds0.tw14086846478420545224 : True := trivial
theorem holds0.tw14122084362780066028 : True := trivial
theorem holds0.tw14167323309457151008 : True := trivial
theorem holds0.tw14175028373207200763 : True := trivial
theorem holds0.tw14228380275118285612 : True := trivial
theorem holds0.tw14265168259183537334 : True := trivial
theorem holds0.tw14269041634605306321 : True := trivial
theorem holds0.tw14313412193275738266 : True := trivial
theorem holds0.tw14319981620000432185 : True := trivial
theorem holds0.tw14325698767187591456 : True := trivial
theorem holds0.tw14329194863927213773 : True := trivial
theorem holds0.tw14334557496089126213 : True := trivial
theorem holds0.tw14337436292309981306 : True := trivial
theorem holds0.tw14344286442873821845 : True := trivial
theorem holds0.tw144797858212117916 : True := trivial
theorem holds0.tw14527322135808494827 : True := trivial
theorem holds0.tw145360926894285458 : True := trivial
theorem holds0.tw14627318815912710327 : True := trivial
theorem holds0.tw14702183806970549296 : True := trivial
theorem holds0.tw14733395373639662604 : True := trivial
theorem holds0.tw14779036743916018623 : True := trivial
theorem holds0.tw14834445896047339678 : True := trivial
theorem holds0.tw14918160823946983826 : True := trivial
theorem holds0.tw14927901337406694223 : True := trivial
theorem holds0.tw1500536998609737433 : True := trivial
theorem holds0.tw15058704082104115873 : True := trivial
theorem holds0.tw1508727516449544096 : True := trivial
theorem holds0.tw15119445986003221326 : True := trivial
theorem holds0.tw15126610927992824490 : True := trivial
theorem holds0.tw15136741201088240710 : True := trivial
theorem holds0.tw15151143439006125882 : True := trivial
theorem holds0.tw1516428127744487167 : True := trivial
theorem holds0.tw15175401346581053113 : True := trivial
theorem holds0.tw15187157485441049739 : True := trivial
theorem holds0.tw15187258483219358381 : True := trivial
theorem holds0.tw15260256754444427451 : True := trivial
theorem holds0.tw15277069087203576628 : True := trivial
theorem holds0.tw15301774797305648377 : True := trivial
theorem holds0.tw15357623127664579382 : True := trivial
theorem holds0.tw15361372288387340744 : True := trivial
theorem holds0.tw15443395912094420529 : True := trivial
theorem holds0.tw15538636333795409024 : True := trivial
theorem holds0.tw15575208961324301607 : True := trivial
theorem holds0.tw15605652656995279362 : True := trivial
theorem holds0.tw15613741446234320795 : True := trivial
theorem holds0.tw15627920062056316846 : True := trivial
theorem holds0.tw15639635613838266172 : True := trivial
theorem holds0.tw15731248312821668390 : True := trivial
theorem holds0.tw15738415682608200659 : True := trivial
theorem holds0.tw15753819089803320484 : True := trivial
theorem holds0.tw15771041693219072581 : True := trivial
theorem holds0.tw15833880537056985711 : True := trivial
theorem holds0.tw15849736802687798369 : True := trivial
theorem holds0.tw15855820481718707316 : True := trivial
theorem holds0.tw1591691687257195582 : True := trivial
theorem holds0.tw16009442371595357851 : True := trivial
theorem holds0.tw16036096562334258769 : True := trivial
theorem holds0.tw16045982641274670913 : True := trivial
theorem holds0.tw16124094856807067994 : True := trivial
theorem holds0.tw16146213699724030768 : True := trivial
theorem holds0.tw16182846510721540414 : True := trivial
theorem holds0.tw16389610403460480112 : True := trivial
theorem holds0.tw16397976656450922504 : True := trivial
theorem holds0.tw16442577594920049782 : True := trivial
theorem holds0.tw1659100428626876996 : True := trivial
theorem holds0.tw16613404126217886834 : True := trivial
theorem holds0.tw1668875337693642991 : True := trivial
theorem holds0.tw16884872643924712186 : True := trivial
theorem holds0.tw16935920287196374679 : True := trivial
theorem holds0.tw17001424863281093115 : True := trivial
theorem holds0.tw1700593479249995143 : True := trivial
theorem holds0.tw17013205039012260858 : True := trivial
theorem holds0.tw17013518480641823495 : True := trivial
theorem holds0.tw17035519765825726126 : True := trivial
theorem holds0.tw17128112055897882225 : True := trivial
theorem holds0.tw17159242174727828876 : True := trivial
theorem holds0.tw17187099344981667480 : True := trivial
theorem holds0.tw17229759608157906874 : True := trivial
theorem holds0.tw17277336420526894317 : True := trivial
theorem holds0.tw1727751494470492147 : True := trivial
theorem holds0.tw17307664080804038347 : True := trivial
theorem holds0.tw1738554888960193205 : True := trivial
theorem holds0.tw17389161612215175605 : True := trivial
theorem holds0.tw17415939492693759024 : True := trivial
theorem holds0.tw17416546681933100860 : True := trivial
theorem holds0.tw17439995882201779292 : True := trivial
theorem holds0.tw17454621901270414578 : True := trivial
theorem holds0.tw1747959082925392112 : True := trivial
theorem holds0.tw17539566244329383991 : True := trivial
theorem holds0.tw17547920294050268301 : True := trivial
theorem holds0.tw17570716310593808638 : True := trivial
theorem holds0.tw17590556415541302333 : True := trivial
theorem holds0.tw17625859798133700392 : True := trivial
theorem holds0.tw1769204793577102391 : True := trivial
theorem holds0.tw17734725567097968804 : True := trivial
theorem holds0.tw17770859645496876270 : True := trivial
theorem holds0.tw17865254856333479976 : True := trivial
theorem holds0.tw17884144551296198965 : True := trivial
theorem holds0.tw17954929003637828567 : True := trivial
theorem holds0.tw18130022166259787874 : True := trivial
theorem holds0.tw18164912138331657111 : True := trivial
theorem holds0.tw18204664982770358465 : True := trivial
theorem holds0.tw18395084727341916737 : True := trivial
theorem holds0.tw18418126793908287379 : True := trivial
theorem holds0.tw1875542038929808541 : True := trivial
theorem holds0.tw1938646555685408306 : True := trivial
theorem holds0.tw1971040469523836525 : True := trivial
theorem holds0.tw1976380553486099538 : True := trivial
theorem holds0.tw2077210765372704342 : True := trivial
theorem holds0.tw2108834141865162558 : True := trivial
theorem holds0.tw2126026383746775243 : True := trivial
theorem holds0.tw2131336005089995567 : True := trivial
theorem holds0.tw2204255785485684019 : True := trivial
theorem holds0.tw223633045611922348 : True := trivial
theorem holds0.tw2330945181866937230 : True := trivial
theorem holds0.tw2387247106428345752 : True := trivial
theorem holds0.tw2390287572520237232 : True := trivial
theorem holds0.tw2403618940175352537 : True := trivial
theorem holds0.tw2441612300487473551 : True := trivial
theorem holds0.tw2509788385384925776 : True := trivial
theorem holds0.tw2510766530428967335 : True := trivial
theorem holds0.tw2512377399829230712 : True := trivial
theorem holds0.tw2527479262340572309 : True := trivial
theorem holds0.tw2540279503834492987 : True := trivial
theorem holds0.tw2547461975835347368 : True := trivial
theorem holds0.tw2557582832947218289 : True := trivial
theorem holds0.tw256390677660561319 : True := trivial
theorem holds0.tw257673262132816818 : True := trivial
theorem holds0.tw2600820954535814914 : True := trivial
theorem holds0.tw2650275684781180633 : True := trivial
theorem holds0.tw2677111865647189388 : True := trivial
theorem holds0.tw2688983182399402561 : True := trivial
theorem holds0.tw2706413279556599449 : True := trivial
theorem holds0.tw2723411562033100397 : True := trivial
theorem holds0.tw275687855330079732 : True := trivial
theorem holds0.tw2761964548702894515 : True := trivial
theorem holds0.tw2777055018016074060 : True := trivial
theorem holds0.tw2785617449983200801 : True := trivial
theorem holds0.tw2790614294055722515 : True := trivial
theorem holds0.tw2791688972589814106 : True := trivial
theorem holds0.tw2809032348617449861 : True := trivial
theorem holds0.tw281112894407549558 : True := trivial
theorem holds0.tw2838173209691663193 : True := trivial
theorem holds0.tw2839149746936608373 : True := trivial
theorem holds0.tw2864312578527586594 : True := trivial
theorem holds0.tw2912869556863394847 : True := trivial
theorem holds0.tw292821970913419948 : True := trivial
theorem holds0.tw2941137904688133665 : True := trivial
theorem holds0.tw2950893088166723196 : True := trivial
theorem holds0.tw2981047930824848028 : True := trivial
theorem holds0.tw3005413023320783422 : True := trivial
theorem holds0.tw3009099287612502633 : True := trivial
theorem holds0.tw3020179568871860169 : True := trivial
theorem holds0.tw3025935962949482155 : True := trivial
theorem holds0.tw3028865689775758725 : True := trivial
theorem holds0.tw3084778716748704959 : True := trivial
theorem holds0.tw309368521912924230 : True := trivial
theorem holds0.tw3108703018436639929 : True := trivial
theorem holds0.tw3122048236217244625 : True := trivial
theorem holds0.tw3139323983074196682 : True := trivial
theorem holds0.tw3171384481121378973 : True := trivial
theorem holds0.tw3312595786652525621 : True := trivial
theorem holds0.tw335331537366559520 : True := trivial
theorem holds0.tw337380153796871087 : True := trivial
theorem holds0.tw3403230965156564716 : True := trivial
theorem holds0.tw3418727923765355918 : True := trivial
theorem holds0.tw3482176699368081298 : True := trivial
theorem holds0.tw3513881706095856356 : True := trivial
theorem holds0.tw3539995994669245166 : True := trivial
theorem holds0.tw359188792486692733 : True := trivial
theorem holds0.tw3655399197787611230 : True := trivial
theorem holds0.tw367107594834941016 : True := trivial
theorem holds0.tw3696280219547099294 : True := trivial
theorem holds0.tw3696402599006157341 : True := trivial
theorem holds0.tw3735674094008384659 : True := trivial
theorem holds0.tw3748858229596486240 : True := trivial
theorem holds0.tw3759043005447419589 : True := trivial
theorem holds0.tw3787025775966040155 : True := trivial
theorem holds0.tw3837889256082750955 : True := trivial
theorem holds0.tw3915088146589073681 : True := trivial
theorem holds0.tw3921846028966784678 : True := trivial
theorem holds0.tw3975155153387120950 : True := trivial
theorem holds0.tw4004698987666435275 : True := trivial
theorem holds0.tw4015557720612970198 : True := trivial
theorem holds0.tw4113941009932804649 : True := trivial
theorem holds0.tw4115095416466007977 : True := trivial
theorem holds0.tw4189201294569171369 : True := trivial
theorem holds0.tw4278578833025262070 : True := trivial
theorem holds0.tw4316132192331924408 : True := trivial
theorem holds0.tw4366758488073543320 : True := trivial
theorem holds0.tw4408225282916712849 : True := trivial
theorem holds0.tw4421087499643176722 : True := trivial
theorem holds0.tw4495171392761093698 : True := trivial
theorem holds0.tw4556584954490301175 : True := trivial
theorem holds0.tw457170571853547344 : True := trivial
theorem holds0.tw4652197449176518979 : True := trivial
theorem holds0.tw4673098967420682598 : True := trivial
theorem holds0.tw468710695225656548 : True := trivial
theorem holds0.tw4783014178200706790 : True := trivial
theorem holds0.tw4834217351699365524 : True := trivial
theorem holds0.tw4905321940707510164 : True := trivial
theorem holds0.tw4914088064638821249 : True := trivial
theorem holds0.tw4914485939116325640 : True := trivial
theorem holds0.tw5002171689660912905 : True := trivial
theorem holds0.tw5008068653080357638 : True := trivial
theorem holds0.tw5037942659781917868 : True := trivial
theorem holds0.tw5105204531554515890 : True := trivial
theorem holds0.tw5166268339384035031 : True := trivial
theorem holds0.tw5216576622819707930 : True := trivial
theorem holds0.tw5234119799625941149 : True := trivial
theorem holds0.tw5275722055300364674 : True := trivial
theorem holds0.tw5277754490116625714 : True := trivial
theorem holds0.tw5293791787229448783 : True := trivial
theorem holds0.tw5308667772488466694 : True := trivial
theorem holds0.tw5406671239317538328 : True := trivial
theorem holds0.tw5412641218427886731 : True := trivial
theorem holds0.tw5539109906939514011 : True := trivial
theorem holds0.tw5550875911739043962 : True := trivial
theorem holds0.tw583917707295446163 : True := trivial
theorem holds0.tw5875352966245606236 : True := trivial
theorem holds0.tw5885574041535539046 : True := trivial
theorem holds0.tw6024173173857070120 : True := trivial
theorem holds0.tw6045054348203694399 : True := trivial
theorem holds0.tw6046734039864538275 : True := trivial
theorem holds0.tw6196458603019278144 : True := trivial
theorem holds0.tw6211388254486126648 : True := trivial
theorem holds0.tw625232951352538983 : True := trivial
theorem holds0.tw6267165290269548563 : True := trivial
theorem holds0.tw6322839643408784730 : True := trivial
theorem holds0.tw6358072951395814764 : True := trivial
theorem holds0.tw635917361431368846 : True := trivial
theorem holds0.tw643270925012339516 : True := trivial
theorem holds0.tw6472274980743441173 : True := trivial
theorem holds0.tw6473843943777281531 : True := trivial
theorem holds0.tw650633714966348484 : True := trivial
theorem holds0.tw6516442670505905479 : True := trivial
theorem holds0.tw6522877385315787053 : True := trivial
theorem holds0.tw6583868837034288063 : True := trivial
theorem holds0.tw6610352349488203816 : True := trivial
theorem holds0.tw6625718509508153598 : True := trivial
theorem holds0.tw6745574676104058457 : True := trivial
theorem holds0.tw6817410507567286376 : True := trivial
theorem holds0.tw6910543567803256000 : True := trivial
theorem holds0.tw7041751097101150314 : True := trivial
theorem holds0.tw7051521405629854439 : True := trivial
theorem holds0.tw7054721338737267776 : True := trivial
theorem holds0.tw7067028462682212196 : True := trivial
theorem holds0.tw709301255627461193 : True := trivial
theorem holds0.tw7126817574586177224 : True := trivial
theorem holds0.tw7152085836208072576 : True := trivial
theorem holds0.tw7251762554777005371 : True := trivial
theorem holds0.tw7377864273818423827 : True := trivial
theorem holds0.tw7420649900505576614 : True := trivial
theorem holds0.tw7563889351173184781 : True := trivial
theorem holds0.tw7583327590821728994 : True := trivial
theorem holds0.tw758953940906857986 : True := trivial
theorem holds0.tw7615772254532113564 : True := trivial
theorem holds0.tw7740058464692464833 : True := trivial
theorem holds0.tw7768907068590555977 : True := trivial
theorem holds0.tw780778478567900993 : True := trivial
theorem holds0.tw7935248235046745373 : True := trivial
theorem holds0.tw7955981796530817928 : True := trivial
theorem holds0.tw796650699377956018 : True := trivial
theorem holds0.tw8003215569269407398 : True := trivial
theorem holds0.tw8033433053502187246 : True := trivial
theorem holds0.tw8134346034927846381 : True := trivial
theorem holds0.tw8145045633426350960 : True := trivial
theorem holds0.tw8147746757197928127 : True := trivial
theorem holds0.tw8157895277473659496 : True := trivial
theorem holds0.tw8175579906670852257 : True := trivial
theorem holds0.tw8202150450755872504 : True := trivial
theorem holds0.tw8272840173897933111 : True := trivial
theorem holds0.tw8339514451588970452 : True := trivial
theorem holds0.tw8373978375399198617 : True := trivial
theorem holds0.tw8428622173096183082 : True := trivial
theorem holds0.tw8506353083337434628 : True := trivial
theorem holds0.tw8555439697690040755 : True := trivial
theorem holds0.tw8574224856981298649 : True := trivial
theorem holds0.tw8582088011175693131 : True := trivial
theorem holds0.tw8584104338790984804 : True := trivial
theorem holds0.tw8640777751038390647 : True := trivial
theorem holds0.tw8704913965954197590 : True := trivial
theorem holds0.tw8713759413092629201 : True := trivial
theorem holds0.tw8734072310066341654 : True := trivial
theorem holds0.tw8777453298146024004 : True := trivial
theorem holds0.tw8928110452832192827 : True := trivial
theorem holds0.tw8949208125174104602 : True := trivial
theorem holds0.tw8960440747516106684 : True := trivial
theorem holds0.tw8961056841143397952 : True := trivial
theorem holds0.tw9100587586730279150 : True := trivial
theorem holds0.tw9107118319405825893 : True := trivial
theorem holds0.tw9132354632103957995 : True := trivial
theorem holds0.tw9140113415387507643 : True := trivial
theorem holds0.tw9172390649487012274 : True := trivial
theorem holds0.tw92576777728748448 : True := trivial
theorem holds0.tw9276870480127309305 : True := trivial
theorem holds0.tw9370535342329725177 : True := trivial
theorem holds0.tw9483335912338513134 : True := trivial
theorem holds0.tw9550844368889718040 : True := trivial
theorem holds0.tw9558767080235955068 : True := trivial
theorem holds0.tw956189038288175354 : True := trivial
theorem holds0.tw9569503356722605660 : True := trivial
theorem holds0.tw9575600302151004837 : True := trivial
theorem holds0.tw9647286864699149575 : True := trivial
theorem holds0.tw9657999330050748590 : True := trivial
theorem holds0.tw9695623580147258165 : True := trivial
theorem holds0.tw9703735397296836555 : True := trivial
theorem holds0.tw9723903088486428476 : True := trivial
theorem holds0.tw9779988015195921941 : True := trivial
theorem holds0.tw9786356511696928578 : True := trivial
theorem holds0.tw980999935906742814 : True := trivial
theorem holds0.tw9921126879373531135 : True := trivial
theorem holds0.tw9960963400612800661 : True := trivial
theorem holds0.tw9962175425376605677 : True := trivial
theorem holds0.tw15068483726869450994 : True := trivial
set_option Elab.async true
theorem holds0 : PySem.Challenge.rw_rs0218_01.Holds := by
  w_on
  o_law
  o_head (kHook frag.heap_1 [2, 3, 32, 34, 35, 37, 38, 39, 41, 42, 44, 45, 56, 58, 59, 61, 62, 63, 65, 66, 68, 69, 70, 72, 73, 75, 76, 77, 79, 80, 82, 83, 84, 86, 87, 89, 90, 91, 93, 94, 96, 97, 98, 100, 101, 103, 104, 105, 106, 107, 108, 109, 115, 116, 120, 121, 129, 130, 132, 133, 135, 136, 137, 139, 140, 142, 143, 144, 146, 147, 149, 150, 151, 153, 154, 156, 157, 158, 161, 162, 163, 165, 166, 168, 169, 170, 172, 173, 175, 176, 177, 179, 180, 182, 183, 184, 185, 187, 188, 190, 191, 192, 195, 196, 197, 200, 201, 202, 204, 205, 207, 208, 209, 211, 212, 214, 215, 216, 219, 220, 221, 223, 224, 226, 227, 228, 230, 231, 233, 234, 235, 237, 238, 240, 241, 242, 243, 244, 245, 246, 249, 251, 252, 254, 255, 256, 258, 259, 261, 262, 263, 265, 266, 268, 269, 270, 272, 273, 275, 276, 277, 280, 281, 282, 285, 286, 287, 290, 291, 292, 295, 296, 297, 300, 301] (fun _ => by kernel_rfl))
  (case hw => w_witness2)
  intro w s₀ s₁ mg mb G Y fa o pm cd doc dV kV ho hd' hcd hD hmg hg args vals as hpre hlay hrd hwl hlo
  have T := G.T
  have W : WF w (frag.heap_1 w.params) s₁.heap := ⟨kIn_of Y, T.nolimit, ⟨mb, T.b, T.builtins⟩, ⟨mg, T.g⟩⟩
  have e1 := mg_of W.kin T.g (g_law w.params)
  have e2 : mg "law" = some (.ref fa) := hmg
  rw [e2] at e1
  cases e1
  clear G Y T ho hd' hcd hD hmg e2
  wrow_args hpre hlay hrd hwl hlo
  rename_i ns _ _ _ _ _ _ _ la vs _ hL _ _ _ hI _ hc _
  have hz : ns.length ≤ 63 := by lia
  have h := (fn_law (n := 0) (prog := PySem.Challenge.rw_rs0218_01.row.prog) (μ := fun _ => none) W (sv := .raw (.ref la)) (ns := ns) (fun μ => LView.frozen hL hI) hz).toFn callerA s₁ [.ref la] [] room0 hr0 (.cons (.raw _) .nil) .nil
  refine wpAny_mono h (fun v s' g => ?_) (fun _ _ e => e.elim)
  obtain ⟨mv, μ', e, d, i⟩ := g
  subst e
  cases i
  refine GoodW.toG ⟨.inl ⟨.bool true, .bool true, [], rfl, raisesW_false ?hn, .bool true, ?hp, unshared_nil⟩, d.hr.stays, d.os, d.gens.trans hg⟩
  case hn => wrow_none_raised
  case hp => wrow_post
set_option Elab.async false
end Mine
theorem PySem.Challenge.cw_rs0218_01_holds : PySem.Challenge.rw_rs0218_01.Holds :=
  Mine.holds0
