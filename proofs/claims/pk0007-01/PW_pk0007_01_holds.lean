import PyProof.Rows.All
import Wide.All
import OpenK.AllK
import Wide.FinOn
import PySem.Challenge.RW_pk0007_01
open PySem PySem.W PyProof.Rows
set_option Elab.async false
set_option autoImplicit false
set_option linter.unusedVariables false
set_option maxRecDepth 100000

/- Fw1 -/
namespace Mine

/-! data -/
inductive Sc where
  | none
  | bool (b : Bool)
  | int (i : Int)
  | str (x : Str)
  | bytes (b : Array UInt8)

inductive ScR : Value → Sc → Prop
  | none : ScR .none .none
  | bool (b) : ScR (.bool b) (.bool b)
  | int (i t) : ScR (.int i t) (.int i)
  | str (x t) : ScR (.str x t) (.str x)
  | bytes (b t) : ScR (.bytes b t) (.bytes b)

inductive D where
  | sc (d : Sc)
  | list (xs : List Sc)
  | tuple (xs : List Sc)
  | lists (xss : List (List Sc))
  | own (a : Addr)

def ListR (bad : List Addr) (h : Heap) (v : Value) (xs : List Sc) : Prop :=
  ∃ a vs, v = .ref a ∧ a ∉ bad ∧ h.PlainList a vs ∧ Paired ScR vs.toList xs

def Rep (bad : List Addr) (h : Heap) (v : Value) : D → Prop
  | .sc d => ScR v d
  | .list xs => ListR bad h v xs
  | .tuple xs => ∃ a vs, v = .ref a ∧ a ∉ bad ∧ h.IsTuple a vs ∧ Paired ScR vs.toList xs
  | .lists xss => ∃ a vs, v = .ref a ∧ a ∉ bad ∧ h.PlainList a vs ∧ Paired (ListR bad h) vs.toList xss
  | .own a => v = .ref a

def KH (h h' : Heap) : Prop := ∀ b o, h.get? b = some o → h'.get? b = some o
def SeqKeep (bad : List Addr) (h h' : Heap) : Prop := ∀ a o, a ∉ bad → h.get? a = some o → (∃ its n, o.data = .seq its n) → h'.get? a = some o

theorem KH.refl (h : Heap) : KH h h := fun _ _ e => e
theorem KH.trans {a b c : Heap} (x : KH a b) (y : KH b c) : KH a c := fun p o e => y p o (x p o e)
theorem KH.seq {bad : List Addr} {h h' : Heap} (x : KH h h') : SeqKeep bad h h' := fun a o _ e _ => x a o e
theorem SeqKeep.trans {bad : List Addr} {a b c : Heap} (x : SeqKeep bad a b) (y : SeqKeep bad b c) : SeqKeep bad a c :=
  fun p o hp e hs => y p o hp (x p o hp e hs) hs

theorem plain_seq {bad : List Addr} {h h' : Heap} {a : Addr} {vs : Array Value} (x : h.PlainList a vs) (k : SeqKeep bad h h') (ha : a ∉ bad) : h'.PlainList a vs := by
  obtain ⟨n, e⟩ := x
  exact ⟨n, k a _ ha e ⟨vs, n, rfl⟩⟩
theorem tuple_seq {bad : List Addr} {h h' : Heap} {a : Addr} {vs : Array Value} (x : h.IsTuple a vs) (k : SeqKeep bad h h') (ha : a ∉ bad) : h'.IsTuple a vs := by
  obtain ⟨o, e, hc, n, hd⟩ := x
  exact ⟨o, k a o ha e ⟨vs, n, hd⟩, hc, n, hd⟩
theorem ListR.mono {bad : List Addr} {h h' : Heap} {v : Value} {xs : List Sc} (x : ListR bad h v xs) (k : SeqKeep bad h h') : ListR bad h' v xs := by
  obtain ⟨a, vs, rfl, ha, hl, hp⟩ := x
  exact ⟨a, vs, rfl, ha, plain_seq hl k ha, hp⟩
theorem Rep.mono {bad : List Addr} {h h' : Heap} {v : Value} {d : D} (x : Rep bad h v d) (k : SeqKeep bad h h') : Rep bad h' v d := by
  cases d with
  | sc d => exact x
  | list xs => exact ListR.mono x k
  | tuple xs =>
    obtain ⟨a, vs, rfl, ha, hl, hp⟩ := x
    exact ⟨a, vs, rfl, ha, tuple_seq hl k ha, hp⟩
  | lists xss =>
    obtain ⟨a, vs, rfl, ha, hl, hp⟩ := x
    exact ⟨a, vs, rfl, ha, plain_seq hl k ha, hp.mono fun _ _ q => q.mono k⟩
  | own a => exact x
theorem ListR.sub {bad bad' : List Addr} {h : Heap} {v : Value} {xs : List Sc} (x : ListR bad h v xs) (k : ∀ b ∈ bad', b ∈ bad) : ListR bad' h v xs := by
  obtain ⟨a, vs, rfl, ha, hl, hp⟩ := x
  exact ⟨a, vs, rfl, fun q => ha (k _ q), hl, hp⟩
theorem Rep.sub {bad bad' : List Addr} {h : Heap} {v : Value} {d : D} (x : Rep bad h v d) (k : ∀ b ∈ bad', b ∈ bad) : Rep bad' h v d := by
  cases d with
  | sc d => exact x
  | list xs => exact ListR.sub x k
  | tuple xs =>
    obtain ⟨a, vs, rfl, ha, hl, hp⟩ := x
    exact ⟨a, vs, rfl, fun q => ha (k _ q), hl, hp⟩
  | lists xss =>
    obtain ⟨a, vs, rfl, ha, hl, hp⟩ := x
    exact ⟨a, vs, rfl, fun q => ha (k _ q), hl, hp.mono fun _ _ q => q.sub k⟩
  | own a => exact x
theorem Rep.none {bad : List Addr} {h : Heap} {v : Value} {d : D} (x : Rep bad h v d) : Rep [] h v d := x.sub fun _ q => nomatch q

/-! states -/
theorem keeps_refl (s : Shared) : Keeps s s := ⟨s.heap, s.toks, rfl, fun _ _ e => e⟩
theorem keeps_trans {a b c : Shared} (x : Keeps a b) (y : Keeps b c) : Keeps a c := by
  obtain ⟨h, t, rfl, k⟩ := x
  obtain ⟨h', t', rfl, k'⟩ := y
  exact ⟨h', t', rfl, fun p o e => k' p o (k p o e)⟩
theorem keeps_kh {a b : Shared} (x : Keeps a b) : KH a.heap b.heap := by
  obtain ⟨h, t, rfl, k⟩ := x; exact k
theorem keeps_tok (s : Shared) (t : Nat) : Keeps s { s with toks := t } := ⟨s.heap, t, rfl, fun _ _ e => e⟩
theorem keeps_push (s : Shared) (o : Obj) (t : Nat) : Keeps s { s with heap := s.heap.push o, toks := t } :=
  ⟨_, t, rfl, fun _ _ e => Heap.get?_push_of_some _ e⟩
theorem keeps_push' (s : Shared) (o : Obj) : Keeps s { s with heap := s.heap.push o } :=
  ⟨_, s.toks, rfl, fun _ _ e => Heap.get?_push_of_some _ e⟩

structure Cx where
  prog : Program
  w : World
  mg : Str → Option Value
  mb : Str → Option Value
  K : Frag

structure Gl (c : Cx) (h : Heap) : Prop where
  g : h.Ns mainGlobals c.mg
  b : h.Ns builtinsNs c.mb
  k : c.K.In h
  lim : h.NoLimit
theorem Gl.keeps {c : Cx} {h h' : Heap} (x : Gl c h) (k : KH h h') : Gl c h' :=
  ⟨x.g.keeps k, x.b.keeps k, fun a o e => k a o (x.k a o e), x.lim.keeps k⟩

def Live (bad : List Addr) (h : Heap) : Prop := ∀ b ∈ bad, ∃ o, h.get? b = some o
theorem Live.keeps {bad : List Addr} {h h' : Heap} (x : Live bad h) (k : KH h h') : Live bad h' := fun b hb => let ⟨o, e⟩ := x b hb; ⟨o, k b o e⟩
theorem Live.fresh {bad : List Addr} {h : Heap} (x : Live bad h) {a : Addr} (ha : h.objs.size ≤ a) : a ∉ bad := fun q => by
  obtain ⟨o, e⟩ := x a q
  exact absurd (Heap.lt_size e) (Nat.not_lt.mpr ha)
theorem Live.new {bad : List Addr} {h : Heap} (x : Live bad h) {a : Addr} (ha : h.get? a = none) : a ∉ bad := fun q => by
  obtain ⟨o, e⟩ := x a q
  rw [ha] at e; cases e

structure View (env : Env) (ns : List Str) (vals : List (Option D)) (bad : List Addr) (h : Heap) : Prop where
  fn : env.scope.kind = .function
  gl : env.globals = mainGlobals
  bu : env.builtins = builtinsNs
  loc : ∃ m, h.Ns env.locals m ∧ ∀ (i : Nat) (x : Str) (d : D), ns[i]? = some x → vals[i]? = some (some d) → env.kindOf x = some .local → ∃ v, m x = some v ∧ Rep bad h v d
  cel : ∀ (i : Nat) (x : Str) (d : D), ns[i]? = some x → vals[i]? = some (some d) → env.kindOf x = some .cell → ∃ c v, env.cells.lookup x = some c ∧ h.IsCell c (some v) ∧ Rep bad h v d
  live : Live bad h
theorem View.keeps {env : Env} {ns : List Str} {vals : List (Option D)} {bad : List Addr} {h h' : Heap} (x : View env ns vals bad h) (k : KH h h') : View env ns vals bad h' := by
  refine ⟨x.fn, x.gl, x.bu, ?_, ?_, x.live.keeps k⟩
  · obtain ⟨m, hn, hm⟩ := x.loc
    refine ⟨m, hn.keeps k, fun i y d a b e => ?_⟩
    obtain ⟨v, hv, hr⟩ := hm i y d a b e
    exact ⟨v, hv, hr.mono k.seq⟩
  · intro i y d a b e
    obtain ⟨c, v, hc, hv, hr⟩ := x.cel i y d a b e
    exact ⟨c, v, hc, hv.keeps k, hr.mono k.seq⟩

/-! judgements -/
section
variable (c : Cx) (A : Around) (env : Env) (ns : List Str) (vals : List (Option D)) (bad : List Addr)

def Ev (e : Expr) (d : D) : Prop :=
  ∀ s, Gl c s.heap → View env ns vals bad s.heap →
    wpAny (model c.prog c.w) A (eval e env) (fun v s' => Rep bad s'.heap v d ∧ Keeps s s') (fun _ _ => False) s

def Evs (es : List Expr) (ds : List D) : Prop :=
  ∀ (pos : Pos) s, Gl c s.heap → View env ns vals bad s.heap →
    wpAny (model c.prog c.w) A (spliced (backTo pos (starEach es env))) (fun vs s' => Paired (Rep bad s'.heap) vs ds ∧ Keeps s s') (fun _ _ => False) s

def EvB (e : Expr) (b : Bool) : Prop :=
  ∀ s, Gl c s.heap → View env ns vals bad s.heap →
    wpAny (model c.prog c.w) A (isTrue e env (eval e env)) (fun r s' => r = b ∧ Keeps s s') (fun _ _ => False) s

def Bi (f : Value) (ds : List D) (d : D) : Prop :=
  ∀ s vs, Gl c s.heap → Live bad s.heap → Paired (Rep bad s.heap) vs ds →
    wpAny (model c.prog c.w) A (call f vs) (fun v s' => Rep bad s'.heap v d ∧ Keeps s s') (fun _ _ => False) s
end

section
variable {c : Cx} {A : Around} {env : Env} {ns : List Str} {vals : List (Option D)} {bad : List Addr}

/-- chaining: go on behind a first judgement -/
theorem ev_then {t : Sem Value} {s : Shared} {R : Value → Shared → Prop} {d : D}
    (h : wpAny (model c.prog c.w) A t (fun v s' => Rep bad s'.heap v d ∧ Keeps s s') (fun _ _ => False) s)
    (hk : ∀ v s', Rep bad s'.heap v d → Keeps s s' → R v s') :
    wpAny (model c.prog c.w) A t R (fun _ _ => False) s := wpAny_mono h (fun v s' q => hk v s' q.1 q.2) fun _ _ x => x

theorem ev_name (i : Nat) {x : Str} {pos : Pos} {d : D} (hi : ns[i]? = some x) (hd : vals[i]? = some (some d))
    (hk : env.kindOf x = some .local ∨ env.kindOf x = some .cell) (hb : (x == ("__debug__" : Str)) = false) : Ev c A env ns vals bad (.Name x pos) d := by
  intro s G V
  rcases hk with hk | hk
  · obtain ⟨m, hn, hm⟩ := V.loc
    obtain ⟨v, hv, hr⟩ := hm i x d hi hd hk
    exact wpAny_Name (wpAny_loadName_local V.fn hk hn hv ⟨hr, keeps_refl s⟩) hb
  · obtain ⟨cc, v, hc, hv, hr⟩ := V.cel i x d hi hd hk
    exact wpAny_Name (wpAny_loadName_cell V.fn hk hc hv ⟨hr, keeps_refl s⟩) hb

theorem ev_int {i : Int} {k : Nat} {pos : Pos} : Ev c A env ns vals bad (.Constant (.int i) k pos) (.sc (.int i)) :=
  fun s _ _ => wpAny_Constant_int ⟨.int _ _, keeps_tok s _⟩
theorem ev_str {x : Str} {k : Nat} {pos : Pos} : Ev c A env ns vals bad (.Constant (.str x) k pos) (.sc (.str x)) :=
  fun s _ _ => Calls.Constant_str ⟨.str _ _, keeps_tok s _⟩
theorem ev_bool {b : Bool} {k : Nat} {pos : Pos} : Ev c A env ns vals bad (.Constant (.bool b) k pos) (.sc (.bool b)) :=
  fun s _ _ => wpAny_pure ⟨.bool _, keeps_refl s⟩

theorem evs_nil : Evs c A env ns vals bad [] [] := fun _ s _ _ => args_nil ⟨.nil, keeps_refl s⟩
theorem evs_cons {e : Expr} {es : List Expr} {d : D} {ds : List D} (h : Ev c A env ns vals bad e d) (hs : Evs c A env ns vals bad es ds)
    (he : starEach (e :: es) env = (false, eval e env) :: starEach es env) : Evs c A env ns vals bad (e :: es) (d :: ds) := by
  intro pos s G V
  refine args_cons (wpAny_mono (h s G V) (fun v s₁ q => ?_) fun _ _ x => x) he
  have k := keeps_kh q.2
  refine wpAny_mono (hs pos s₁ (G.keeps k) (V.keeps k)) (fun vs s₂ r => ?_) fun _ _ x => x
  exact ⟨.cons (q.1.mono (keeps_kh r.2).seq) r.1, keeps_trans q.2 r.2⟩

/-- a call of a built-in by its name -/
theorem ev_call_builtin {x : Str} {p pos : Pos} {e : Expr} {es : List Expr} {id : String} {ds : List D} {d : D}
    (hx : env.kindOf x = some .globalImplicit) (hg : c.mg x = none) (hm : c.mb x = some (.builtin id)) (hb : (x == ("__debug__" : Str)) = false)
    (hes : Evs c A env ns vals bad (e :: es) ds) (hf : Bi c A bad (.builtin id) ds d)
    (he : starEach (e :: es) env = (false, eval e env) :: starEach es env)
    (hp : (backTo pos (starEach es env)).any (·.1) = false)
    (hc : eval (.Call (.Name x p) (e :: es) [] pos) env = (do callWith pos (← eval (.Name x p) env) [] (backTo pos (starEach (e :: es) env)) (backToKw pos (keywordEach [] env)))) :
    Ev c A env ns vals bad (.Call (.Name x p) (e :: es) [] pos) d := by
  intro s G V
  refine Call_ (Calls.Name_function_global V.fn hx (Calls.loadGlobal_builtin (mg := c.mg) (mb := c.mb) (V.gl ▸ G.g) hg (V.bu ▸ G.b) hm ?_) hb) hc
  refine callWith_builtin1 (wpAny_mono (hes pos s G V) (fun vs s₁ q => ?_) fun _ _ x => x) he hp
  have k := keeps_kh q.2
  exact wpAny_mono (hf s₁ vs (G.keeps k) (V.live.keeps k) q.1) (fun v s₂ r => ⟨r.1, keeps_trans q.2 r.2⟩) fun _ _ x => x

theorem ev_call_type {x : Str} {p pos : Pos} {e : Expr} {es : List Expr} {T : String} {ds : List D} {d : D}
    (hx : env.kindOf x = some .globalImplicit) (hg : c.mg x = none) (hm : c.mb x = some (.type T)) (hb : (x == ("__debug__" : Str)) = false)
    (hes : Evs c A env ns vals bad (e :: es) ds) (hf : Bi c A bad (.type T) ds d)
    (he : starEach (e :: es) env = (false, eval e env) :: starEach es env)
    (hp : (backTo pos (starEach es env)).any (·.1) = false)
    (hc : eval (.Call (.Name x p) (e :: es) [] pos) env = (do callWith pos (← eval (.Name x p) env) [] (backTo pos (starEach (e :: es) env)) (backToKw pos (keywordEach [] env)))) :
    Ev c A env ns vals bad (.Call (.Name x p) (e :: es) [] pos) d := by
  intro s G V
  refine Call_ (Calls.Name_function_global V.fn hx (Calls.loadGlobal_builtin (mg := c.mg) (mb := c.mb) (V.gl ▸ G.g) hg (V.bu ▸ G.b) hm ?_) hb) hc
  refine callWith_type1 (wpAny_mono (hes pos s G V) (fun vs s₁ q => ?_) fun _ _ x => x) he hp
  have k := keeps_kh q.2
  exact wpAny_mono (hf s₁ vs (G.keeps k) (V.live.keeps k) q.1) (fun v s₂ r => ⟨r.1, keeps_trans q.2 r.2⟩) fun _ _ x => x

/-- a call of a def of the text (its address written in K) -/
theorem ev_call_def {x : Str} {p pos : Pos} {e : Expr} {es : List Expr} {f : Addr} {o : Obj} {fd : FuncData} {ds : List D} {d : D}
    (hx : env.kindOf x = some .globalImplicit) (hg : c.mg x = some (.ref f)) (hb : (x == ("__debug__" : Str)) = false)
    (ho : c.K.lookup f = some o) (hd : o.data = .func fd)
    (hes : Evs c A env ns vals bad (e :: es) ds) (hf : Bi c A bad (.ref f) ds d)
    (he : starEach (e :: es) env = (false, eval e env) :: starEach es env)
    (hc : eval (.Call (.Name x p) (e :: es) [] pos) env = (do callWith pos (← eval (.Name x p) env) [] (backTo pos (starEach (e :: es) env)) (backToKw pos (keywordEach [] env)))) :
    Ev c A env ns vals bad (.Call (.Name x p) (e :: es) [] pos) d := by
  intro s G V
  refine Call_ (Calls.Name_function_global V.fn hx (Calls.loadGlobal_global (mg := c.mg) (V.gl ▸ G.g) hg ?_) hb) hc
  refine callWith_def hd (wpAny_mono (hes pos s G V) (fun vs s₁ q => ?_) fun _ _ x => x) he
  have k := keeps_kh q.2
  exact ⟨(G.keeps k).k f o ho, wpAny_mono (hf s₁ vs (G.keeps k) (V.live.keeps k) q.1) (fun v s₂ r => ⟨r.1, keeps_trans q.2 r.2⟩) fun _ _ x => x⟩

theorem ev_binop {l r : Expr} {op : Operator} {pos : Pos} {d₁ d₂ d : D} (hl : Ev c A env ns vals bad l d₁) (hr : Ev c A env ns vals bad r d₂)
    (h : ∀ s v₁ v₂, Gl c s.heap → Live bad s.heap → Rep bad s.heap v₁ d₁ → Rep bad s.heap v₂ d₂ → wpAny (model c.prog c.w) A (binaryOp op v₁ v₂) (fun v s' => Rep bad s'.heap v d ∧ Keeps s s') (fun _ _ => False) s) :
    Ev c A env ns vals bad (.BinOp l op r pos) d := by
  intro s G V
  refine wpAny_BinOp (wpAny_mono (hl s G V) (fun v₁ s₁ q₁ => ?_) fun _ _ x => x)
  have k₁ := keeps_kh q₁.2
  refine wpAny_mono (hr s₁ (G.keeps k₁) (V.keeps k₁)) (fun v₂ s₂ q₂ => ?_) fun _ _ x => x
  have k₂ := keeps_kh q₂.2
  exact wpAny_mono (h s₂ v₁ v₂ ((G.keeps k₁).keeps k₂) ((V.live.keeps k₁).keeps k₂) (q₁.1.mono k₂.seq) q₂.1) (fun v s₃ q => ⟨q.1, keeps_trans q₁.2 (keeps_trans q₂.2 q.2)⟩) fun _ _ x => x

theorem ev_add {l r : Expr} {pos : Pos} {a b : Int} (hl : Ev c A env ns vals bad l (.sc (.int a))) (hr : Ev c A env ns vals bad r (.sc (.int b))) :
    Ev c A env ns vals bad (.BinOp l .Add r pos) (.sc (.int (a + b))) :=
  ev_binop hl hr fun s _ _ _ _ h₁ h₂ => by cases h₁; cases h₂; exact add_int ⟨.int _ _, keeps_tok s _⟩
theorem ev_sub {l r : Expr} {pos : Pos} {a b : Int} (hl : Ev c A env ns vals bad l (.sc (.int a))) (hr : Ev c A env ns vals bad r (.sc (.int b))) :
    Ev c A env ns vals bad (.BinOp l .Sub r pos) (.sc (.int (a - b))) :=
  ev_binop hl hr fun s _ _ _ _ h₁ h₂ => by cases h₁; cases h₂; exact sub_int ⟨.int _ _, keeps_tok s _⟩
theorem ev_mod {l r : Expr} {pos : Pos} {a b : Int} (hl : Ev c A env ns vals bad l (.sc (.int a))) (hr : Ev c A env ns vals bad r (.sc (.int b))) (hb : b ≠ 0) :
    Ev c A env ns vals bad (.BinOp l .Mod r pos) (.sc (.int (a.fmod b))) :=
  ev_binop hl hr fun s _ _ _ _ h₁ h₂ => by cases h₁; cases h₂; exact mod_int' hb ⟨.int _ _, keeps_tok s _⟩

end
end Mine

/- Fw2 -/
namespace Mine

/-! lists of ints -/
abbrev sInts (ns : List Int) : List Sc := ns.map Sc.int
theorem ints_are : ∀ {vs : List Value} {ns : List Int}, Paired ScR vs (sInts ns) → IntsAre vs ns
  | _, [], .nil => .nil
  | _, _ :: _, .cons (.int i t) r => .cons i t (ints_are r)
theorem paired_get {α β : Type} {F : α → β → Prop} : ∀ {l₁ : List α} {l₂ : List β}, Paired F l₁ l₂ → ∀ {i : Nat} {b : β}, l₂[i]? = some b → ∃ a, l₁[i]? = some a ∧ F a b
  | _, _, .nil, i, b, e => by simp at e
  | _, _, .cons h r, 0, b, e => by simp at e; subst e; exact ⟨_, rfl, h⟩
  | _, _, .cons h r, i + 1, b, e => by
    have := paired_get r (i := i) (b := b) (by simpa using e)
    simpa using this
theorem paired_get' {α β : Type} {F : α → β → Prop} : ∀ {l₁ : List α} {l₂ : List β}, Paired F l₁ l₂ → ∀ {i : Nat} {a : α}, l₁[i]? = some a → ∃ b, l₂[i]? = some b ∧ F a b
  | _, _, .nil, i, b, e => by simp at e
  | _, _, .cons h r, 0, b, e => by simp at e; subst e; exact ⟨_, rfl, h⟩
  | _, _, .cons h r, i + 1, b, e => by
    have := paired_get' r (i := i) (a := b) (by simpa using e)
    simpa using this
theorem plain_list {h : Heap} {a : Addr} {vs : Array Value} (x : h.PlainList a vs) : h.IsList a vs := by
  obtain ⟨n, e⟩ := x; exact ⟨_, e, rfl, n, rfl⟩
theorem arr_get {vs : Array Value} {i : Nat} {v : Value} (e : vs.toList[i]? = some v) : vs[i]? = some v := by
  rw [← Array.getElem?_toList]; exact e
theorem paired_size {F : Value → Sc → Prop} {vs : Array Value} {xs : List Sc} (p : Paired F vs.toList xs) : vs.size = xs.length := by
  rw [← p.length]; simp

section
variable {c : Cx} {A : Around} {env : Env} {ns : List Str} {vals : List (Option D)} {bad : List Addr}

/-! items -/
theorem ev_sub_of {value slice : Expr} {pos : Pos} {d₁ d₂ d : D} (hl : Ev c A env ns vals bad value d₁) (hr : Ev c A env ns vals bad slice d₂)
    (h : ∀ s v₁ v₂, Gl c s.heap → Live bad s.heap → Rep bad s.heap v₁ d₁ → Rep bad s.heap v₂ d₂ → wpAny (model c.prog c.w) A (subscriptTail value slice v₁ v₂) (fun v s' => Rep bad s'.heap v d ∧ Keeps s s') (fun _ _ => False) s) :
    Ev c A env ns vals bad (.Subscript value slice pos) d := by
  intro s G V
  refine Subscript_ (wpAny_mono (hl s G V) (fun v₁ s₁ q₁ => ?_) fun _ _ x => x)
  have k₁ := keeps_kh q₁.2
  refine wpAny_mono (hr s₁ (G.keeps k₁) (V.keeps k₁)) (fun v₂ s₂ q₂ => ?_) fun _ _ x => x
  have k₂ := keeps_kh q₂.2
  exact wpAny_mono (h s₂ v₁ v₂ ((G.keeps k₁).keeps k₂) ((V.live.keeps k₁).keeps k₂) (q₁.1.mono k₂.seq) q₂.1) (fun v s₃ q => ⟨q.1, keeps_trans q₁.2 (keeps_trans q₂.2 q.2)⟩) fun _ _ x => x

/-- an item of a list of scalars at a place in bounds -/
theorem ev_item {value slice : Expr} {pos : Pos} {xs : List Sc} {k : Int} {d : Sc} (hl : Ev c A env ns vals bad value (.list xs)) (hr : Ev c A env ns vals bad slice (.sc (.int k)))
    (h0 : 0 ≤ k) (hx : xs[k.toNat]? = some d) (hz : xs.length ≤ 1000)
    (hs : ∀ o i : Value, subscripted slice false o i = operate [o, i] (getItem o i)) :
    Ev c A env ns vals bad (.Subscript value slice pos) (.sc d) := by
  refine ev_sub_of hl hr fun s v₁ v₂ _ _ h₁ h₂ => ?_
  obtain ⟨a, vs, rfl, ha, hp, hq⟩ := h₁
  cases h₂
  obtain ⟨v, hv, hsc⟩ := paired_get hq hx
  have hk : k.toNat < xs.length := by
    rcases Nat.lt_or_ge k.toNat xs.length with h | h
    · exact h
    · rw [List.getElem?_eq_none h] at hx; cases hx
  exact tail_any (plain_list hp).typeIs slot_list_getitem.lookup (wpAny_getItem_list (plain_list hp) h0 (by omega) (arr_get hv) ⟨hsc, keeps_refl s⟩) (hs _ _)

/-- an item of a list of lists -/
theorem ev_itemL {value slice : Expr} {pos : Pos} {xss : List (List Sc)} {k : Int} {xs : List Sc} (hl : Ev c A env ns vals bad value (.lists xss)) (hr : Ev c A env ns vals bad slice (.sc (.int k)))
    (h0 : 0 ≤ k) (hx : xss[k.toNat]? = some xs) (hz : xss.length ≤ 1000)
    (hs : ∀ o i : Value, subscripted slice false o i = operate [o, i] (getItem o i)) :
    Ev c A env ns vals bad (.Subscript value slice pos) (.list xs) := by
  refine ev_sub_of hl hr fun s v₁ v₂ _ _ h₁ h₂ => ?_
  obtain ⟨a, vs, rfl, ha, hp, hq⟩ := h₁
  cases h₂
  obtain ⟨v, hv, hsc⟩ := paired_get hq hx
  have hk : k.toNat < xss.length := by
    rcases Nat.lt_or_ge k.toNat xss.length with h | h
    · exact h
    · rw [List.getElem?_eq_none h] at hx; cases hx
  exact tail_any (plain_list hp).typeIs slot_list_getitem.lookup (wpAny_getItem_list (plain_list hp) h0 (by omega) (arr_get hv) ⟨hsc, keeps_refl s⟩) (hs _ _)

/-- a sign of a text -/
theorem ev_sign {value slice : Expr} {pos : Pos} {x : Str} {k : Int} {ch : Nat} (hl : Ev c A env ns vals bad value (.sc (.str x))) (hr : Ev c A env ns vals bad slice (.sc (.int k)))
    (hlo : -1000 ≤ k) (hhi : k < 1000) (hx : (seqIndex? k x.length).bind (x.cps[·]?) = some ch)
    (hs : ∀ o i : Value, subscripted slice false o i = operate [o, i] (getItem o i)) :
    Ev c A env ns vals bad (.Subscript value slice pos) (.sc (.str ⟨#[ch]⟩)) := by
  refine ev_sub_of hl hr fun s v₁ v₂ _ _ h₁ h₂ => ?_
  cases h₁
  cases h₂
  refine tail_any (typeIs_str s x _) PySem.F.slot_str_getitem.lookup ?_ (hs _ _)
  exact PySem.P.getItem_str (by rw [Bool.or_eq_false_iff]; exact ⟨decide_eq_false (by omega), decide_eq_false (by omega)⟩) hx ⟨.str _ _, keeps_tok s _⟩

/-! slices -/
def EvP (c : Cx) (A : Around) (env : Env) (ns : List Str) (vals : List (Option D)) (bad : List Addr) (e : Option Expr) (k : Option Int) : Prop :=
  ∀ s, Gl c s.heap → View env ns vals bad s.heap →
    wpAny (model c.prog c.w) A (evalPart e env) (fun v s' => IsPart v k ∧ Keeps s s') (fun _ _ => False) s
theorem evp_none : EvP c A env ns vals bad none none := fun s _ _ => wpAny_pure ⟨.none, keeps_refl s⟩
theorem evp_some {e : Expr} {k : Int} (h : Ev c A env ns vals bad e (.sc (.int k))) : EvP c A env ns vals bad (some e) (some k) := by
  intro s G V
  rw [evalPart_some]
  refine wpAny_mono (h s G V) (fun v s' q => ?_) fun _ _ x => x
  obtain ⟨q, k'⟩ := q
  cases q
  exact ⟨.int _ _, k'⟩

theorem ev_slice_any {lower upper step : Option Expr} {p : Pos} {lo hi st : Option Int} {s : Shared} {Q : Value → Shared → Prop}
    (G : Gl c s.heap) (V : View env ns vals bad s.heap) (h1 : EvP c A env ns vals bad lower lo) (h2 : EvP c A env ns vals bad upper hi) (h3 : EvP c A env ns vals bad step st)
    (h : ∀ a vl vu vs s', Keeps s s' → s'.heap.IsSliceOf a vl vu vs → IsPart vl lo → IsPart vu hi → IsPart vs st → Q (.ref a) s') :
    wpAny (model c.prog c.w) A (eval (.Slice lower upper step p) env) Q (fun _ _ => False) s := by
  refine wpAny_Slice (wpAny_mono (h1 s G V) (fun vl s₁ q₁ => ?_) fun _ _ x => x)
  have k₁ := keeps_kh q₁.2
  refine wpAny_mono (h2 s₁ (G.keeps k₁) (V.keeps k₁)) (fun vu s₂ q₂ => ?_) fun _ _ x => x
  have k₂ := keeps_kh q₂.2
  refine wpAny_mono (h3 s₂ ((G.keeps k₁).keeps k₂) ((V.keeps k₁).keeps k₂)) (fun vs s₃ q₃ => ?_) fun _ _ x => x
  exact h _ _ _ _ _ (keeps_trans q₁.2 (keeps_trans q₂.2 (keeps_trans q₃.2 (keeps_push' _ _)))) (Heap.IsSliceOf.new ..) q₁.1 q₂.1 q₃.1

theorem paired_filterMap {F : Value → Sc → Prop} {vs : Array Value} {xs : List Sc} (p : Paired F vs.toList xs) : ∀ is : List Nat,
    Paired F (is.filterMap (vs[·]?)) (is.filterMap (xs[·]?))
  | [] => .nil
  | i :: is => by
    have ih := paired_filterMap p is
    rw [List.filterMap_cons, List.filterMap_cons]
    cases e : vs[i]? with
    | none =>
      have : xs[i]? = none := by
        rw [List.getElem?_eq_none_iff, ← paired_size p]
        exact Array.getElem?_eq_none_iff.mp e
      rw [this]; exact ih
    | some v =>
      obtain ⟨b, hb, hF⟩ := paired_get' p (i := i) (a := v) (by rw [Array.getElem?_toList]; exact e)
      rw [hb]; exact .cons hF ih

def pick (xs : List Sc) (lo hi st : Option Int) : List Sc :=
  (sliceRange (sliceBounds lo hi st xs.length).1 (sliceBounds lo hi st xs.length).2.1 (sliceBounds lo hi st xs.length).2.2).filterMap (xs[·]?)
theorem paired_pick {F : Value → Sc → Prop} {vs : Array Value} {xs : List Sc} (p : Paired F vs.toList xs) (lo hi st : Option Int) : Paired F (slicePick vs lo hi st).toList (pick xs lo hi st) := by
  have := paired_size p
  unfold slicePick pick
  rw [this]
  exact paired_filterMap p _

/-- a slice of a list of scalars, without a step -/
theorem ev_cut {value : Expr} {lower upper : Option Expr} {p pos : Pos} {xs : List Sc} {lo hi : Option Int} (hl : Ev c A env ns vals bad value (.list xs))
    (h1 : EvP c A env ns vals bad lower lo) (h2 : EvP c A env ns vals bad upper hi) (hz : xs.length ≤ 1000) :
    Ev c A env ns vals bad (.Subscript value (.Slice lower upper none p) pos) (.list (pick xs lo hi none)) := by
  intro s G V
  refine Subscript_ (wpAny_mono (hl s G V) (fun v s₁ q₁ => ?_) fun _ _ x => x)
  have k₁ := keeps_kh q₁.2
  refine ev_slice_any (G.keeps k₁) (V.keeps k₁) h1 h2 evp_none fun a vl vu vst s₂ k₂ hsl pl pu ps => ?_
  obtain ⟨⟨l, vs, rfl, hb, hp, hq⟩, kk⟩ := q₁
  have hp₂ := plain_seq (bad := bad) hp (keeps_kh k₂).seq hb
  refine tail_any (plain_list hp₂).typeIs slot_list_getitem.lookup (wpAny_getItem_list_slice (plain_list hp₂) hsl pl pu ps (by intro e; cases e) ?_ (by rw [paired_size hq, sizeLine_eq]; omega)) rfl
  refine ⟨⟨_, _, rfl, ?_, ⟨_, Heap.get?_push_size _ rfl⟩, paired_pick hq ..⟩, keeps_trans kk (keeps_trans k₂ (keeps_push' _ _))⟩
  exact ((V.live.keeps k₁).keeps (keeps_kh k₂)).fresh (Nat.le_refl _)
/-- a slice with a step -/
theorem ev_cutBy {value st : Expr} {lower upper : Option Expr} {p pos : Pos} {xs : List Sc} {lo hi : Option Int} {k : Int} (hl : Ev c A env ns vals bad value (.list xs))
    (h1 : EvP c A env ns vals bad lower lo) (h2 : EvP c A env ns vals bad upper hi) (h3 : Ev c A env ns vals bad st (.sc (.int k))) (hk : k ≠ 0) (hz : xs.length ≤ 1000) :
    Ev c A env ns vals bad (.Subscript value (.Slice lower upper (some st) p) pos) (.list (pick xs lo hi (some k))) := by
  intro s G V
  refine Subscript_ (wpAny_mono (hl s G V) (fun v s₁ q₁ => ?_) fun _ _ x => x)
  have k₁ := keeps_kh q₁.2
  refine ev_slice_any (G.keeps k₁) (V.keeps k₁) h1 h2 (evp_some h3) fun a vl vu vst s₂ k₂ hsl pl pu ps => ?_
  obtain ⟨⟨l, vs, rfl, hb, hp, hq⟩, kk⟩ := q₁
  have hp₂ := plain_seq (bad := bad) hp (keeps_kh k₂).seq hb
  refine tail_any (plain_list hp₂).typeIs slot_list_getitem.lookup (wpAny_getItem_list_slice (plain_list hp₂) hsl pl pu ps (by intro e; cases e; exact hk rfl) ?_ (by rw [paired_size hq, sizeLine_eq]; omega)) rfl
  refine ⟨⟨_, _, rfl, ?_, ⟨_, Heap.get?_push_size _ rfl⟩, paired_pick hq ..⟩, keeps_trans kk (keeps_trans k₂ (keeps_push' _ _))⟩
  exact ((V.live.keeps k₁).keeps (keeps_kh k₂)).fresh (Nat.le_refl _)

/-! displays -/
theorem paired_sc {bad : List Addr} {h : Heap} : ∀ {vs : List Value} {xs : List Sc}, Paired (Rep bad h) vs (xs.map .sc) → Paired ScR vs xs
  | _, [], .nil => .nil
  | _, _ :: _, .cons a r => .cons a (paired_sc r)
theorem ev_list {es : List Expr} {pos : Pos} {xs : List Sc} (h : Evs c A env ns vals bad es (xs.map .sc)) (hz : xs.length ≤ 1000) : Ev c A env ns vals bad (.List es pos) (.list xs) := by
  intro s G V
  refine wpAny_List_spliced (wpAny_mono (h pos s G V) (fun vs s₁ q => ⟨?_, ?_, ?_⟩) fun _ _ x => x)
  · have := q.1.length; rw [List.length_map] at this; rw [sizeLine_eq]; omega
  · exact ⟨_, _, rfl, (V.live.keeps (keeps_kh q.2)).fresh (Nat.le_refl _), ⟨_, Heap.get?_push_size _ rfl⟩, paired_sc q.1⟩
  · exact keeps_trans q.2 (keeps_push' _ _)
theorem ev_tuple {es : List Expr} {k : Nat} {pos : Pos} {xs : List Sc} (h : Evs c A env ns vals bad es (xs.map .sc)) (hz : xs.length ≤ 1000) : Ev c A env ns vals bad (.Tuple es k pos) (.tuple xs) := by
  intro s G V
  refine wpAny_Tuple_spliced (wpAny_mono (h pos s G V) (fun vs s₁ q => ⟨?_, ?_, ?_⟩) fun _ _ x => x)
  · have := q.1.length; rw [List.length_map] at this; rw [sizeLine_eq]; omega
  · exact ⟨_, _, rfl, (V.live.keeps (keeps_kh q.2)).fresh (Nat.le_refl _), ⟨_, Heap.get?_push_size _ rfl, rfl, _, rfl⟩, paired_sc q.1⟩
  · exact keeps_trans q.2 (keeps_push' _ _)
end
end Mine

/- Fw3 -/
namespace Mine

structure AOk (A : Around) : Prop where
  hh : A.handled = none
  un : A.units + 64 < cLine
  dp : A.depth < recursionLimit

section
variable {c : Cx} {A : Around} {env : Env} {ns : List Str} {vals : List (Option D)} {bad : List Addr}

/-! comparisons -/
def Cmp (c : Cx) (A : Around) (bad : List Addr) (op : CmpOp) (d₁ d₂ : D) (b : Bool) : Prop :=
  ∀ s v₁ v₂, Gl c s.heap → Live bad s.heap → Rep bad s.heap v₁ d₁ → Rep bad s.heap v₂ d₂ →
    wpAny (model c.prog c.w) A (compareOp op v₁ v₂) (fun v s' => v = .bool b ∧ Keeps s s') (fun _ _ => False) s

theorem cmp_eq_int {a b : Int} : Cmp c A bad .Eq (.sc (.int a)) (.sc (.int b)) (a == b) :=
  fun s _ _ _ _ h₁ h₂ => by cases h₁; cases h₂; exact eq_int ⟨rfl, keeps_refl s⟩
theorem cmp_ne_int {a b : Int} : Cmp c A bad .NotEq (.sc (.int a)) (.sc (.int b)) (a != b) :=
  fun s _ _ _ _ h₁ h₂ => by cases h₁; cases h₂; exact ne_int ⟨rfl, keeps_refl s⟩
theorem cmp_lt_int {a b : Int} : Cmp c A bad .Lt (.sc (.int a)) (.sc (.int b)) (decide (a < b)) :=
  fun s _ _ _ _ h₁ h₂ => by cases h₁; cases h₂; exact lt_int ⟨rfl, keeps_refl s⟩
theorem cmp_gt_int {a b : Int} : Cmp c A bad .Gt (.sc (.int a)) (.sc (.int b)) (decide (a > b)) :=
  fun s _ _ _ _ h₁ h₂ => by cases h₁; cases h₂; exact gt_int ⟨rfl, keeps_refl s⟩
theorem cmp_ne_str {x y : Str} : Cmp c A bad .NotEq (.sc (.str x)) (.sc (.str y)) (x != y) :=
  fun s _ _ _ _ h₁ h₂ => by cases h₁; cases h₂; exact ne_str ⟨rfl, keeps_refl s⟩

theorem ints_any : ∀ {vs : List Value} {ns : List Int} (k : Int), IntsAre vs ns → vs.any (isInt k) = decide (k ∈ ns)
  | _, _, k, .nil => rfl
  | _, _, k, .cons n t r => by
    rw [List.any_cons, ints_any k r]
    have e : isInt k (.int n t) = (n == k) := rfl
    rw [e]
    by_cases h : n = k
    · simp [h]
    · have h' : k ≠ n := fun q => h q.symm
      simp [h, h']
theorem cmp_in_ints {k : Int} {ks : List Int} : Cmp c A bad .In (.sc (.int k)) (.list (sInts ks)) (decide (k ∈ ks)) := by
  intro s _ _ _ _ h₁ h₂
  cases h₁
  obtain ⟨a, vs, rfl, ha, hp, hq⟩ := h₂
  have hi := ints_are hq
  refine SeqInW.in_listW (isInt k) (fun y hy => eq_isInt k _ hi y (by simpa using hy)) (plain_list hp) ⟨?_, keeps_refl s⟩
  rw [← Array.any_toList, ints_any k hi]
theorem cmp_eq_ints (hA : AOk A) {ks js : List Int} : Cmp c A bad .Eq (.list (sInts ks)) (.list (sInts js)) (decide (ks = js)) := by
  intro s _ _ _ _ h₁ h₂
  obtain ⟨a, vs, rfl, ha, hp, hq⟩ := h₁
  obtain ⟨b, us, rfl, hb, hp', hq'⟩ := h₂
  exact ke_eq_ints (xs := vs.toList) (ys := us.toList) (by simpa using plain_list hp) (by simpa using plain_list hp') (ints_are hq) (ints_are hq') hA.un ⟨rfl, keeps_refl s⟩
theorem cmp_ne_ints (hA : AOk A) {ks js : List Int} : Cmp c A bad .NotEq (.list (sInts ks)) (.list (sInts js)) (!decide (ks = js)) := by
  intro s _ _ _ _ h₁ h₂
  obtain ⟨a, vs, rfl, ha, hp, hq⟩ := h₁
  obtain ⟨b, us, rfl, hb, hp', hq'⟩ := h₂
  exact ke_ne_ints (xs := vs.toList) (ys := us.toList) (by simpa using plain_list hp) (by simpa using plain_list hp') (ints_are hq) (ints_are hq') hA.un ⟨rfl, keeps_refl s⟩

/-! tuples of bytes -/
abbrev sBytes (bs : List (Array UInt8)) : List Sc := bs.map Sc.bytes
theorem bytes_at {vs : Array Value} {bs : List (Array UInt8)} (p : Paired ScR vs.toList (sBytes bs)) {j : Nat} (hj : j < vs.size) : ∃ b t, vs[j] = .bytes b t ∧ bs[j]? = some b := by
  have e : vs.toList[j]? = some vs[j] := by simp [hj]
  obtain ⟨d, hd, hr⟩ := paired_get' p e
  rw [List.getElem?_map] at hd
  cases q : bs[j]? with
  | none => rw [q] at hd; cases hd
  | some b =>
    rw [q] at hd
    cases hd
    cases hv : vs[j] with
    | bytes b' t => rw [hv] at hr; cases hr; exact ⟨_, _, rfl, rfl⟩
    | _ => rw [hv] at hr; cases hr
def bytesAt (bs cs : List (Array UInt8)) (j : Nat) : Bool := decide ((bs[j]?.getD #[]).toList = (cs[j]?.getD #[]).toList)
theorem all_bytesAt (bs cs : List (Array UInt8)) : ((List.range (min bs.length cs.length)).all (bytesAt bs cs) && bs.length == cs.length) = decide (bs = cs) := by
  by_cases h : bs = cs
  · subst h; simp [bytesAt]
  · rw [decide_eq_false h]
    by_cases hl : bs.length = cs.length
    · rw [Bool.and_eq_false_iff]; left
      rw [Bool.eq_false_iff]
      intro q
      apply h
      apply List.ext_getElem? 
      intro j
      rcases Nat.lt_or_ge j bs.length with hj | hj
      · have := List.all_eq_true.mp q j (by simp; omega)
        simp only [bytesAt, decide_eq_true_eq] at this
        have hj' : j < cs.length := by omega
        rw [List.getElem?_eq_getElem hj, List.getElem?_eq_getElem hj'] at this ⊢
        simp only [Option.getD_some] at this
        rw [Array.toList_inj.mp this]
      · rw [List.getElem?_eq_none hj, List.getElem?_eq_none (by omega)]
    · simp [hl]
theorem cmp_ne_bytes (hA : AOk A) {bs cs : List (Array UInt8)} : Cmp c A bad .NotEq (.tuple (sBytes bs)) (.tuple (sBytes cs)) (!decide (bs = cs)) := by
  intro s _ _ _ _ h₁ h₂
  obtain ⟨a, vs, rfl, ha, ⟨⟨cls, dd, data, sl⟩, ho, hc, n, hd⟩, hq⟩ := h₁
  obtain ⟨b, us, rfl, hb, ⟨⟨cls2, dd2, data2, sl2⟩, ho2, hc2, n2, hd2⟩, hq'⟩ := h₂
  simp only at hc hd hc2 hd2
  subst hc hd hc2 hd2
  have l1 : vs.size = bs.length := by have := paired_size hq; simpa using this
  have l2 : us.size = cs.length := by have := paired_size hq'; simpa using this
  refine cmp_ofNotEq (richCompare_meets_room (op := .NotEq) ⟨_, ho, rfl⟩ ⟨_, ho2, rfl⟩ PySem.F.slot_tuple_ne PySem.F.entry_tuple_ne (PySem.F.args_tuple_ne_2 _ _)
    (PySem.SeqAt.tuple_neAt a b vs us n n2 dd dd2 sl sl2 (bytesAt bs cs)) ⟨ho, ho2, fun j h1 h2 => ?_, ?_⟩ (by have := hA.un; omega))
  · obtain ⟨x, t, e1, g1⟩ := bytes_at hq h1
    obtain ⟨y, u, e2, g2⟩ := bytes_at hq' h2
    rw [e1, e2]
    intro prog w E Q hQ
    refine eqBool_bytes ?_
    simpa [bytesAt, g1, g2] using hQ
  · refine ⟨(fun x => nomatch x), ?_, keeps_refl s⟩
    rw [l1, l2, all_bytesAt]
theorem cmp_eq_bytes (hA : AOk A) {bs cs : List (Array UInt8)} : Cmp c A bad .Eq (.tuple (sBytes bs)) (.tuple (sBytes cs)) (decide (bs = cs)) := by
  intro s _ _ _ _ h₁ h₂
  obtain ⟨a, vs, rfl, ha, ⟨⟨cls, dd, data, sl⟩, ho, hc, n, hd⟩, hq⟩ := h₁
  obtain ⟨b, us, rfl, hb, ⟨⟨cls2, dd2, data2, sl2⟩, ho2, hc2, n2, hd2⟩, hq'⟩ := h₂
  simp only at hc hd hc2 hd2
  subst hc hd hc2 hd2
  have l1 : vs.size = bs.length := by have := paired_size hq; simpa using this
  have l2 : us.size = cs.length := by have := paired_size hq'; simpa using this
  refine cmp_ofEq (richCompare_meets_room (op := .Eq) ⟨_, ho, rfl⟩ ⟨_, ho2, rfl⟩ PySem.F.slot_tuple_eq PySem.F.entry_tuple_eq (PySem.F.args_tuple_eq_2 _ _)
    (PySem.SeqAt.tuple_eqAt a b vs us n n2 dd dd2 sl sl2 (bytesAt bs cs)) ⟨ho, ho2, fun j h1 h2 => ?_, ?_⟩ (by have := hA.un; omega))
  · obtain ⟨x, t, e1, g1⟩ := bytes_at hq h1
    obtain ⟨y, u, e2, g2⟩ := bytes_at hq' h2
    rw [e1, e2]
    intro prog w E Q hQ
    refine eqBool_bytes ?_
    simpa [bytesAt, g1, g2] using hQ
  · refine ⟨(fun x => nomatch x), ?_, keeps_refl s⟩
    rw [l1, l2, all_bytesAt]

theorem ev_cmp {l r : Expr} {op : CmpOp} {pos : Pos} {d₁ d₂ : D} {b : Bool} (hl : Ev c A env ns vals bad l d₁) (hr : Ev c A env ns vals bad r d₂) (h : Cmp c A bad op d₁ d₂ b)
    (hm : behindInMarks op r = false) : Ev c A env ns vals bad (.Compare l [op] [r] pos) (.sc (.bool b)) := by
  intro s G V
  refine wpAny_Compare1 (wpAny_mono (hl s G V) (fun v₁ s₁ q₁ => ?_) fun _ _ x => x) hm
  have k₁ := keeps_kh q₁.2
  refine wpAny_mono (hr s₁ (G.keeps k₁) (V.keeps k₁)) (fun v₂ s₂ q₂ => ?_) fun _ _ x => x
  have k₂ := keeps_kh q₂.2
  refine wpAny_mono (h s₂ v₁ v₂ ((G.keeps k₁).keeps k₂) ((V.live.keeps k₁).keeps k₂) (q₁.1.mono k₂.seq) q₂.1) (fun v s₃ q => ?_) fun _ _ x => x
  obtain ⟨rfl, k⟩ := q
  exact ⟨.bool b, keeps_trans q₁.2 (keeps_trans q₂.2 k)⟩
theorem evb_cmp {l r : Expr} {op : CmpOp} {pos : Pos} {d₁ d₂ : D} {b : Bool} (hl : Ev c A env ns vals bad l d₁) (hr : Ev c A env ns vals bad r d₂) (h : Cmp c A bad op d₁ d₂ b)
    (hm : behindInMarks op r = false) : EvB c A env ns vals bad (.Compare l [op] [r] pos) b := by
  intro s G V
  refine wpAny_isTrue_Compare1 (wpAny_mono (hl s G V) (fun v₁ s₁ q₁ => ?_) fun _ _ x => x) hm
  have k₁ := keeps_kh q₁.2
  refine wpAny_mono (hr s₁ (G.keeps k₁) (V.keeps k₁)) (fun v₂ s₂ q₂ => ?_) fun _ _ x => x
  have k₂ := keeps_kh q₂.2
  refine wpAny_mono (h s₂ v₁ v₂ ((G.keeps k₁).keeps k₂) ((V.live.keeps k₁).keeps k₂) (q₁.1.mono k₂.seq) q₂.1) (fun v s₃ q => ?_) fun _ _ x => x
  obtain ⟨rfl, k⟩ := q
  exact wpAny_truthy_bool ⟨rfl, keeps_trans q₁.2 (keeps_trans q₂.2 k)⟩
theorem evb_or2 {e₁ e₂ : Expr} {pos : Pos} {a b : Bool} (h₁ : EvB c A env ns vals bad e₁ a) (h₂ : a = false → EvB c A env ns vals bad e₂ b) : EvB c A env ns vals bad (.BoolOp .Or [e₁, e₂] pos) (a || b) := by
  intro s G V
  refine isTrue_or (wpAny_mono (h₁ s G V) (fun r s₁ q => ?_) fun _ _ x => x)
  obtain ⟨rfl, k⟩ := q
  cases r with
  | true => exact ⟨rfl, k⟩
  | false =>
    have kk := keeps_kh k
    refine isTrue_or (wpAny_mono (h₂ rfl s₁ (G.keeps kk) (V.keeps kk)) (fun r s₂ q => ?_) fun _ _ x => x)
    obtain ⟨rfl, k'⟩ := q
    cases r with
    | true => exact ⟨rfl, keeps_trans k k'⟩
    | false => exact isTrue_or_nil ⟨rfl, keeps_trans k k'⟩
theorem evb_not {e : Expr} {pos : Pos} {a : Bool} (h : EvB c A env ns vals bad e a) : EvB c A env ns vals bad (.UnaryOp .Not e pos) (!a) := by
  intro s G V
  exact isTrue_not (wpAny_mono (h s G V) (fun r s₁ q => ⟨by rw [q.1], q.2⟩) fun _ _ x => x)
theorem evb_bool {e : Expr} {b : Bool} (h : Ev c A env ns vals bad e (.sc (.bool b)))
    (he : isTrue e env (eval e env) = (do let v ← eval e env; standAt e.pos; holding [v] (truthy v))) : EvB c A env ns vals bad e b := by
  intro s G V
  refine isTrue_plain (wpAny_mono (h s G V) (fun v s₁ q => ?_) fun _ _ x => x) he
  obtain ⟨q, k⟩ := q
  cases q
  exact wpAny_truthy_bool ⟨rfl, k⟩
end
end Mine

/- Fw4 -/
namespace Mine
section
variable {c : Cx} {A : Around} {env : Env} {ns : List Str} {vals : List (Option D)} {bad : List Addr}

/-! methods -/
def OfType (bad : List Addr) (d : D) (T : String) : Prop := ∀ (s : Shared) v, Rep bad s.heap v d → s.TypeIs v T ∧ ∀ a, v = .ref a → ∃ ob, s.heap.get? a = some ob ∧ ob.dict = none
theorem ofType_str {x : Str} : OfType bad (.sc (.str x)) "str" := fun s v h => by cases h; exact ⟨typeIs_str _ _ _, fun _ e => nomatch e⟩
theorem ofType_bytes {x : Array UInt8} : OfType bad (.sc (.bytes x)) "bytes" := fun s v h => by cases h; exact ⟨typeIs_bytes _ _ _, fun _ e => nomatch e⟩
theorem ofType_list {xs : List Sc} : OfType bad (.list xs) "list" := fun s v h => by
  obtain ⟨a, vs, rfl, _, hp, _⟩ := h
  obtain ⟨n, e⟩ := id hp
  exact ⟨(plain_list hp).typeIs, fun a' e' => by cases e'; exact ⟨_, e, rfl⟩⟩

theorem ev_method1 {o e : Expr} {name : Str} {apos pos : Pos} {T id : String} {d₀ d₁ d : D} (ho : Ev c A env ns vals bad o d₀) (hT : OfType bad d₀ T) (pa : PlainAttrs T) (slot : Slot T name id)
    (hty : typeOf (.builtin id) = pure (.type "method_descriptor")) (hes : Ev c A env ns vals bad e d₁) (hf : Bi c A bad (.builtin id) [d₀, d₁] d)
    (hbase : attributeBase o name env (eval o env) = eval o env) (hs : starEach [e] env = (false, eval e env) :: starEach [] env)
    (hfew : ((backTo pos (starEach [e] env)).all (fun x => !x.1) && (backToKw pos (keywordEach [] env)).all (fun x => x.1.isSome)
      && decide ([e].length + ([] : List Keyword).length + (if ([] : List Keyword).isEmpty then 0 else 1) < 30)) = true)
    (hline : (apos.endLine == pos.line) = true) :
    Ev c A env ns vals bad (.Call (.Attribute o name apos) [e] [] pos) d := by
  intro s G V
  refine wpAny_Call_method hbase hfew hline pa slot hty (wpAny_mono (ho s G V) (fun v s₁ q => ?_) fun _ _ x => x)
  obtain ⟨h1, h2⟩ := hT s₁ v q.1
  refine ⟨h1, h2, callWith_method1 (wpAny_mono (evs_cons hes evs_nil hs pos s₁ (G.keeps (keeps_kh q.2)) (V.keeps (keeps_kh q.2))) (fun vs s₂ r => ?_) fun _ _ x => x) hs (by rfl)⟩
  have k := keeps_kh q.2
  have k' := keeps_kh r.2
  exact wpAny_mono (hf s₂ (v :: vs) ((G.keeps k).keeps k') ((V.live.keeps k).keeps k') (.cons (q.1.mono k'.seq) r.1)) (fun v s₃ z => ⟨z.1, keeps_trans q.2 (keeps_trans r.2 z.2)⟩) fun _ _ x => x

theorem paired1 {bad : List Addr} {h : Heap} {vs : List Value} {d : D} (p : Paired (Rep bad h) vs [d]) : ∃ v, vs = [v] ∧ Rep bad h v d := by
  cases p with | cons a r => cases r; exact ⟨_, rfl, a⟩
theorem paired2 {bad : List Addr} {h : Heap} {vs : List Value} {d e : D} (p : Paired (Rep bad h) vs [d, e]) : ∃ v u, vs = [v, u] ∧ Rep bad h v d ∧ Rep bad h u e := by
  cases p with | cons a r => obtain ⟨u, rfl, b⟩ := paired1 r; exact ⟨_, u, rfl, a, b⟩

/-! built-ins -/
theorem bi_index {ks : List Int} {k : Int} (hk : k ∈ ks) (hz : ks.length ≤ 1000) : Bi c A bad (.builtin "list.index") [.list (sInts ks), .sc (.int k)] (.sc (.int (ks.idxOf k : Nat))) := by
  intro s vs G L p
  obtain ⟨v, u, rfl, h₁, h₂⟩ := paired2 p
  cases h₂ with | int _ t =>
  obtain ⟨l, us, rfl, ha, ⟨n, ho⟩, hq⟩ := h₁
  have hi := ints_are hq
  have hlen := hi.length
  have hj : ks.idxOf k < ks.length := List.idxOf_lt_length_iff.mpr hk
  have hsz : us.size = ks.length := by rw [← hlen]; simp
  refine call_meets PySem.F.slot_list_index ⟨_, ho, rfl⟩ PySem.F.entry_list_index (PySem.F.args_list_index_2 _ _)
    (SeqAt.list_indexAt l us n none #[] (.int k t) (isInt k) (ks.idxOf k) (by omega) (by omega) ?_ ?_) ⟨ho, fun y hy => (eq_isInt k t hi y (by simpa using hy)).at _ _, .int _ _, keeps_tok s _⟩
  · have := isInt_at k hi (ks.idxOf k) (by simpa using by omega) hj
    simp only [Array.getElem_toList] at this
    rw [this]
    simpa using List.getElem_idxOf hj
  · intro j hjs hlt
    have := isInt_at k hi j (by simpa using hjs) (by omega)
    simp only [Array.getElem_toList] at this
    rw [this]
    exact ne_of_lt_idxOf hlt _
theorem bi_lstrip {x y : Str} (hz : x.length ≤ 100000) : Bi c A bad (.builtin "str.lstrip") [.sc (.str x), .sc (.str y)] (.sc (.str (Txt.lstripChars x y))) := by
  intro s vs G L p
  obtain ⟨v, u, rfl, h₁, h₂⟩ := paired2 p
  cases h₁; cases h₂
  exact SC.lstripChars (fun t' k => ⟨.str _ _, keeps_tok s _⟩) (by rw [sizeLine_eq]; omega)
theorem bi_len_str {x : Str} (hz : x.length ≤ 100000) : Bi c A bad (.builtin "len") [.sc (.str x)] (.sc (.int x.length)) := by
  intro s vs G L p
  obtain ⟨v, rfl, h₁⟩ := paired1 p
  cases h₁
  exact P.len_str (by omega) ⟨.int _ _, keeps_tok s _⟩
theorem bi_len_tuple {xs : List Sc} (hz : xs.length ≤ 100000) : Bi c A bad (.builtin "len") [.tuple xs] (.sc (.int xs.length)) := by
  intro s vs G L p
  obtain ⟨v, rfl, h₁⟩ := paired1 p
  obtain ⟨l, us, rfl, ha, ht, hq⟩ := h₁
  have hsz := paired_size hq
  refine len_tuple ht (by rw [hsz]; omega) ?_
  rw [hsz]
  exact ⟨.int _ _, keeps_tok s _⟩
theorem bi_min (hA : AOk A) {a b : Int} : Bi c A bad (.builtin "min") [.sc (.int a), .sc (.int b)] (.sc (.int (if b < a then b else a))) := by
  intro s vs G L p
  obtain ⟨v, u, rfl, h₁, h₂⟩ := paired2 p
  cases h₁; cases h₂
  refine min_two_ints hA.hh fun h' tk k => ⟨?_, h', tk, rfl, k⟩
  split <;> exact .int _ _
theorem ints_nums : ∀ {vs : List Value} {ks : List Int}, IntsAre vs ks → numsOf vs = ks
  | _, _, .nil => rfl
  | _, _, .cons k t r => by simp [numsOf, ints_nums r]
theorem ints_all {vs : Array Value} {ks : List Int} (h : IntsAre vs.toList ks) : AllInts vs := by
  have : ∀ {us : List Value} {ks : List Int}, IntsAre us ks → ∀ v ∈ us, ∃ a t, v = .int a t := by
    intro us ks h
    induction h with
    | nil => intro v hv; cases hv
    | cons k t r ih =>
      intro v hv
      rcases List.mem_cons.mp hv with rfl | hv
      · exact ⟨_, _, rfl⟩
      · exact ih v hv
  intro v hv
  exact this h v (by simpa using hv)
theorem bi_sum (hA : AOk A) {ks : List Int} : Bi c A bad (.builtin "sum") [.list (sInts ks)] (.sc (.int ks.sum)) := by
  intro s vs G L p
  obtain ⟨v, rfl, h₁⟩ := paired1 p
  obtain ⟨l, us, rfl, ha, hp, hq⟩ := h₁
  have hi := ints_are hq
  obtain ⟨xs, rfl⟩ := (ints_all hi).items
  refine sum_intListG hA.hh (plain_list hp) fun h' tk t' k => ⟨?_, h', tk, rfl, k⟩
  have e := ints_nums hi
  rw [nums_intItems] at e
  rw [preSum_eq, List.take_of_length_le (by simp), e]
  exact .int _ _
theorem bi_tuple {xs : List Sc} (hz : xs.length ≤ 100000) : Bi c A bad (.type "tuple") [.list xs] (.tuple xs) := by
  intro s vs G L p
  obtain ⟨v, rfl, h₁⟩ := paired1 p
  obtain ⟨l, us, rfl, ha, hp, hq⟩ := h₁
  have hsz := paired_size hq
  refine call_tuple_list (plain_list hp) (fun h' k => ⟨⟨_, _, rfl, (L.keeps k).fresh (Nat.le_refl _), ⟨_, Heap.get?_push_size _ rfl, rfl, _, rfl⟩, hq⟩, ?_⟩) (by rw [hsz, sizeLine_eq]; omega)
  exact ⟨_, s.toks, rfl, fun b o e => Heap.get?_push_of_some _ (k b o e)⟩

theorem bi_isi_bytes {x : Array UInt8} (f : Value) (hf : f = .type "bytes") {s : Shared} {v : Value} (G : Gl c s.heap) (h : Rep bad s.heap v (.sc (.bytes x))) :
    wpAny (model c.prog c.w) A (call (.builtin "isinstance") [v, f]) (fun r s' => r = .bool true ∧ Keeps s s') (fun _ _ => False) s := by
  subst hf
  cases h
  exact kia_one kitx_bytes G.k trivial (by rfl) (by intro e; cases e) fun tk => ⟨rfl, keeps_tok s tk⟩
end
end Mine

/- Fw5 -/
namespace Mine

def NotNs (h : Heap) (b : Addr) : Prop := ∃ o, h.get? b = some o ∧ (∀ es n, o.data ≠ .dict es n) ∧ ∀ v, o.data ≠ .cell v
theorem NotNs.keeps {h h' : Heap} {b : Addr} (x : NotNs h b) (k : KH h h') : NotNs h' b := let ⟨o, e, r⟩ := x; ⟨o, k b o e, r⟩
theorem NotNs.ne {h : Heap} {b L : Addr} {m : Str → Option Value} (x : NotNs h b) (n : h.Ns L m) : b ≠ L := by
  rintro rfl
  obtain ⟨o, e, hd, _⟩ := x
  obtain ⟨o', es, ep, e', hd', _⟩ := n
  rw [e] at e'; cases e'
  exact hd _ _ hd'
theorem NotNs.neCell {h : Heap} {b L : Addr} {v : Option Value} (x : NotNs h b) (n : h.IsCell L v) : b ≠ L := by
  rintro rfl
  obtain ⟨o, e, _, hd⟩ := x
  obtain ⟨o', e', hd'⟩ := n
  rw [e] at e'; cases e'
  exact hd _ hd'

def scOf : Value → Sc
  | .bool b => .bool b
  | .int i _ => .int i
  | .str x _ => .str x
  | .bytes b _ => .bytes b
  | _ => .none
theorem scOf_of {v : Value} {d : Sc} (h : ScR v d) : scOf v = d := by cases h <;> rfl

section
variable (c : Cx) (A : Around)
structure ItOk (bad : List Addr) (s₀ : Shared) (it : Value) (s₂ : Shared) (xs : List Sc) (I : Addr) (fp wr : List Addr) (P : Nat → Value → Prop) (St : Nat → Heap → Prop) : Prop where
  it : it = .ref I
  walks : Walks c.prog c.w A I fp wr xs.length P St
  data : ∀ i v, P i v → ∃ d, xs[i]? = some d ∧ ScR v d
  st : St 0 s₂.heap
  kind : ∀ j h, St j h → ∀ b ∈ wr, ∃ o, h.get? b = some o ∧ (∀ es n, o.data ≠ .dict es n) ∧ (∀ v, o.data ≠ .cell v) ∧ ∀ its n, o.data ≠ .seq its n
  fp : ∀ b ∈ fp, NotNs s₂.heap b ∧ b ∉ bad
  wr : ∀ b ∈ wr, s₀.heap.get? b = none
  keeps : Keeps s₀ s₂
def EvIt (env : Env) (ns : List Str) (vals : List (Option D)) (bad : List Addr) (e : Expr) (xs : List Sc) : Prop :=
  ∀ s, Gl c s.heap → View env ns vals bad s.heap →
    wpAny (model c.prog c.w) A (eval e env) (fun x s₁ => wpAny (model c.prog c.w) A (pyIter x) (fun it s₂ => ∃ I fp wr P St, ItOk c A bad s it s₂ xs I fp wr P St) (fun _ _ => False) s₁) (fun _ _ => False) s
end

theorem notNs_list {h : Heap} {a : Addr} {vs : Array Value} (x : h.PlainList a vs) : NotNs h a := by
  obtain ⟨n, e⟩ := x
  exact ⟨_, e, (fun _ _ q => nomatch q), fun _ q => nomatch q⟩
theorem notNs_tuple {h : Heap} {a : Addr} {vs : Array Value} (x : h.IsTuple a vs) : NotNs h a := by
  obtain ⟨o, e, _, n, hd⟩ := x
  exact ⟨o, e, (fun _ _ q => by rw [hd] at q; cases q), fun _ q => by rw [hd] at q; cases q⟩

section
variable {c : Cx} {A : Around} {env : Env} {ns : List Str} {vals : List (Option D)} {bad : List Addr}

theorem it_list (hA : AOk A) {e : Expr} {xs : List Sc} (h : Ev c A env ns vals bad e (.list xs)) : EvIt c A env ns vals bad e xs := by
  intro s G V
  refine wpAny_mono (h s G V) (fun v s₁ q => ?_) fun _ _ x => x
  obtain ⟨⟨l, vs, rfl, hb, hp, hq⟩, k⟩ := q
  have hlt : l < s₁.heap.objs.size := by obtain ⟨n, e⟩ := hp; exact Heap.lt_size e
  refine wpAny_pyIter_list (plain_list hp) ⟨_, [s₁.heap.objs.size, l], [s₁.heap.objs.size], fun i v => vs[i]? = some v, fun i h => h.IsListIter s₁.heap.objs.size l i ∧ h.IsList l vs, rfl, ?_, ?_, ?_, ?_, ?_, ?_, ?_⟩
  · have := Walks.list (prog := c.prog) (w := c.w) hA.hh s₁.heap.objs.size l (Nat.ne_of_lt hlt) vs
    rw [paired_size hq] at this
    exact this
  · intro i v e
    exact paired_get' hq (by rw [Array.getElem?_toList]; exact e)
  · exact ⟨⟨_, Heap.get?_push_size _ rfl, rfl, rfl⟩, (plain_list hp).push _⟩
  · rintro j h ⟨⟨o, e, _, hd⟩, _⟩ b hb'
    rw [List.mem_singleton.mp hb']
    exact ⟨o, e, (fun _ _ q => by rw [hd] at q; cases q), (fun _ q => by rw [hd] at q; cases q), fun _ _ q => by rw [hd] at q; cases q⟩
  · intro b hb'
    rcases List.mem_cons.mp hb' with rfl | hb'
    · exact ⟨⟨_, Heap.get?_push_size _ rfl, (fun _ _ q => nomatch q), fun _ q => nomatch q⟩, (V.live.keeps (keeps_kh k)).fresh (Nat.le_refl _)⟩
    · rw [List.mem_singleton.mp hb']
      exact ⟨(notNs_list hp).keeps fun b o e => Heap.get?_push_of_some _ e, hb⟩
  · intro b hb'
    rw [List.mem_singleton.mp hb']
    cases e : s.heap.get? s₁.heap.objs.size with
    | none => rfl
    | some o => exact absurd (Heap.lt_size (keeps_kh k _ _ e)) (Nat.lt_irrefl _)
  · exact keeps_trans k (keeps_push' _ _)
theorem it_tuple (hA : AOk A) {e : Expr} {xs : List Sc} (h : Ev c A env ns vals bad e (.tuple xs)) : EvIt c A env ns vals bad e xs := by
  intro s G V
  refine wpAny_mono (h s G V) (fun v s₁ q => ?_) fun _ _ x => x
  obtain ⟨⟨l, vs, rfl, hb, hp, hq⟩, k⟩ := q
  have hlt : l < s₁.heap.objs.size := by obtain ⟨o, e, _⟩ := hp; exact Heap.lt_size e
  refine wpAny_pyIter_tuple hp ⟨_, [s₁.heap.objs.size, l], [s₁.heap.objs.size], fun i v => vs[i]? = some v, fun i h => h.IsTupleIter s₁.heap.objs.size l i ∧ h.IsTuple l vs, rfl, ?_, ?_, ?_, ?_, ?_, ?_, ?_⟩
  · have := Walks.tuple (prog := c.prog) (w := c.w) hA.hh s₁.heap.objs.size l (Nat.ne_of_lt hlt) vs
    rw [paired_size hq] at this
    exact this
  · intro i v e
    exact paired_get' hq (by rw [Array.getElem?_toList]; exact e)
  · exact ⟨⟨_, Heap.get?_push_size _ rfl, rfl, rfl⟩, hp.push _⟩
  · rintro j h ⟨⟨o, e, _, hd⟩, _⟩ b hb'
    rw [List.mem_singleton.mp hb']
    exact ⟨o, e, (fun _ _ q => by rw [hd] at q; cases q), (fun _ q => by rw [hd] at q; cases q), fun _ _ q => by rw [hd] at q; cases q⟩
  · intro b hb'
    rcases List.mem_cons.mp hb' with rfl | hb'
    · exact ⟨⟨_, Heap.get?_push_size _ rfl, (fun _ _ q => nomatch q), fun _ q => nomatch q⟩, (V.live.keeps (keeps_kh k)).fresh (Nat.le_refl _)⟩
    · rw [List.mem_singleton.mp hb']
      exact ⟨(notNs_tuple hp).keeps fun b o e => Heap.get?_push_of_some _ e, hb⟩
  · intro b hb'
    rw [List.mem_singleton.mp hb']
    cases e : s.heap.get? s₁.heap.objs.size with
    | none => rfl
    | some o => exact absurd (Heap.lt_size (keeps_kh k _ _ e)) (Nat.lt_irrefl _)
  · exact keeps_trans k (keeps_push' _ _)

def rangeS (n : Nat) : List Sc := (List.range n).map fun i => .int (i : Nat)
/-- range(n) with a written n -/
theorem it_range (hA : AOk A) {x : Str} {p pos : Pos} {e : Expr} {n : Nat}
    (hx : env.kindOf x = some .globalImplicit) (hg : c.mg x = none) (hm : c.mb x = some (.type "range")) (hb : (x == ("__debug__" : Str)) = false)
    (he : Ev c A env ns vals bad e (.sc (.int (n : Nat)))) (hn : n ≤ 1000)
    (hs : starEach [e] env = (false, eval e env) :: starEach [] env)
    (hc : eval (.Call (.Name x p) [e] [] pos) env = (do callWith pos (← eval (.Name x p) env) [] (backTo pos (starEach [e] env)) (backToKw pos (keywordEach [] env)))) :
    EvIt c A env ns vals bad (.Call (.Name x p) [e] [] pos) (rangeS n) := by
  intro s G V
  refine Call_ (Calls.Name_function_global V.fn hx (Calls.loadGlobal_builtin (mg := c.mg) (mb := c.mb) (V.gl ▸ G.g) hg (V.bu ▸ G.b) hm ?_) hb) hc
  refine callWith_type1 (wpAny_mono (evs_cons he evs_nil hs pos s G V) (fun vs s₁ q => ?_) fun _ _ x => x) hs (by rfl)
  obtain ⟨q, k⟩ := q
  obtain ⟨v, rfl, qv⟩ := paired1 q
  have q' : ScR v (.int (n : Nat)) := qv
  obtain ⟨t, rfl⟩ : ∃ t, v = .int (n : Nat) t := by cases q'; exact ⟨_, rfl⟩
  have hl : (rangeS n).length = n := by simp [rangeS]
  refine call_range_1 ?_
  refine wpAny_pyIter_range (IsRange.new ..) (small_one (a := 0) (b := (n : Int)) (by decide) (by decide) (by omega) (by omega)) ?_
  rw [rangeSize_one]
  generalize hH : s₁.heap.push { cls := .type "range", data := .fields #[.int 0 s₁.toks, .int (n : Int) t, .int 1 (s₁.toks + 1)] } = H
  have kH : KH s₁.heap H := fun b o e => hH ▸ Heap.get?_push_of_some _ e
  refine ⟨_, [H.objs.size], [H.objs.size], fun i v => i < n ∧ ∃ t, v = .int (0 + i * 1) t, fun i h => IsRangeIter h H.objs.size (0 + (i : Nat) * 1) ((n : Int) - (i : Nat)) 1, rfl, ?_, ?_, ?_, ?_, ?_, ?_, ?_⟩
  · have W := Walks.range (prog := c.prog) (w := c.w) hA.hh H.objs.size 0 1 n
    rw [hl]
    exact ⟨W.sub, W.frame, fun i s Q E hi st hQ => W.item i s Q E hi st fun v h' tk hv => hQ v h' tk ⟨hi, hv⟩, W.done, W.self⟩
  · rintro i v ⟨hi, t, rfl⟩
    refine ⟨.int (i : Nat), by simp [rangeS, hi], ?_⟩
    have : (0 : Int) + (i : Int) * 1 = (i : Int) := by omega
    rw [this]
    exact .int _ _
  · show (H.push _).get? H.objs.size = _
    rw [Heap.get?_push_size _ rfl]
    have e : (if (0 : Int) < (n : Int) then (n : Int) - 0 else 0) = (n : Int) := by split <;> omega
    rw [e]
    simp
  · rintro j h e b hb'
    rw [List.mem_singleton.mp hb']
    exact ⟨_, e, (fun _ _ q => nomatch q), (fun _ q => nomatch q), fun _ _ q => nomatch q⟩
  · intro b hb'
    rw [List.mem_singleton.mp hb']
    exact ⟨⟨_, Heap.get?_push_size _ rfl, (fun _ _ q => nomatch q), fun _ q => nomatch q⟩, ((V.live.keeps (keeps_kh k)).keeps kH).fresh (Nat.le_refl _)⟩
  · intro b hb'
    rw [List.mem_singleton.mp hb']
    cases e : s.heap.get? H.objs.size with
    | none => rfl
    | some o => exact absurd (Heap.lt_size (kH _ _ (keeps_kh k _ _ e))) (Nat.lt_irrefl _)
  · exact keeps_trans k ⟨_, _, rfl, fun b o e => Heap.get?_push_of_some _ (kH b o e)⟩
end
end Mine

/- Fw6 -/
namespace Mine

/-- the names that a comprehension takes over from its frame -/
inductive Cap (env : Env) (scope : Scope) (cl : List (Str × Addr)) (ns : List Str) (vals : List (Option D)) : List Str → List (Option D) → Prop
  | nil : Cap env scope cl ns vals [] []
  | cons {y : Str} {v : Option D} {ns' : List Str} {vals' : List (Option D)} (i : Nat) : ns[i]? = some y → vals[i]? = some v → env.kindOf y = some .cell → (relabel scope env).names.lookup y = some .cell →
      cl.lookup y = env.cells.lookup y → Cap env scope cl ns vals ns' vals' → Cap env scope cl ns vals (y :: ns') (v :: vals')

theorem Cap.at {env : Env} {scope : Scope} {cl : List (Str × Addr)} {ns : List Str} {vals : List (Option D)} {ns' : List Str} {vals' : List (Option D)} (x : Cap env scope cl ns vals ns' vals') :
    ∀ (j : Nat) (y : Str) (d : D), ns'[j]? = some y → vals'[j]? = some (some d) → (∃ i : Nat, ns[i]? = some y ∧ vals[i]? = some (some d)) ∧ env.kindOf y = some .cell ∧ (relabel scope env).names.lookup y = some .cell ∧ cl.lookup y = env.cells.lookup y := by
  induction x with
  | nil => intro j y d h; simp at h
  | cons i h1 h2 h3 h4 h5 _ ih =>
    intro j y d e1 e2
    cases j with
    | zero => simp at e1 e2; subst e1 e2; exact ⟨⟨i, h1, h2⟩, h3, h4, h5⟩
    | succ j => exact ih j y d (by simpa using e1) (by simpa using e2)

section
variable {c : Cx} {A : Around} {env : Env} {ns : List Str} {vals : List (Option D)} {bad : List Addr}

theorem comp_view {scope : Scope} {cl : List (Str × Addr)} {x : Str} {ns' : List Str} {vals' : List (Option D)} {h h' : Heap} {C : Addr} {m : Str → Option Value} {v : Value} {d : Sc}
    (V : View env ns vals bad h) (k : KH h h') (hkind : scope.kind = .function) (hx : scope.names.lookup x = some .local) (hcap : Cap env scope cl ns vals ns' vals')
    (hn : h'.Ns C m) (hm : m x = some v) (hd : ScR v d) : View (compEnvC scope cl C env) (x :: ns') (some (.sc d) :: vals') bad h' := by
  have V' := V.keeps k
  refine ⟨hkind, V.gl, V.bu, ⟨m, hn, fun i y e a b q => ?_⟩, fun i y e a b q => ?_, V'.live⟩
  · cases i with
    | zero => simp at a b; subst a b; exact ⟨v, hm, hd⟩
    | succ i =>
      have := (hcap.at i y e (by simpa using a) (by simpa using b)).2.2.1
      have q' : (relabel scope env).names.lookup y = some .local := q
      rw [this] at q'; cases q'
  · cases i with
    | zero =>
      simp at a b; subst a b
      have q' : (relabel scope env).names.lookup x = some .cell := q
      have := lookup_relabel_local (env := env) hx
      have e : (relabel scope env).names.lookup x = some .local := this
      rw [e] at q'; cases q'
    | succ i =>
      obtain ⟨⟨j, e1, e2⟩, hc, _, hl⟩ := hcap.at i y e (by simpa using a) (by simpa using b)
      obtain ⟨cc, u, h1, h2, h3⟩ := V'.cel j y e e1 e2 hc
      exact ⟨cc, u, by show cl.lookup y = _; rw [hl]; exact h1, h2, h3⟩

def EvT (c : Cx) (A : Around) (env : Env) (ns : List Str) (vals : List (Option D)) (bad : List Addr) (ifs : List Expr) (b : Bool) : Prop :=
  ∀ s E, Gl c s.heap → View env ns vals bad s.heap →
    wpAny (model c.prog c.w) A (forIn ifs true fun c r => if r = true then do let ok ← isTrue c env (eval c env); pure (ForInStep.yield ok) else pure (ForInStep.yield r)) (fun ok s' => ok = b ∧ Keeps s s') E s
theorem evt_nil : EvT c A env ns vals bad [] true := fun s E _ _ => wpAny_tests_nil ⟨rfl, keeps_refl s⟩
theorem evt_one {e : Expr} {b : Bool} (h : EvB c A env ns vals bad e b) : EvT c A env ns vals bad [e] b := fun s E G V => wpAny_tests_one (wpAny_mono (h s G V) (fun _ _ q => q) fun _ _ x => x.elim)

theorem paired_comp {xs : List Sc} {pd : Sc → Bool} {f : Sc → Sc} : ∀ {vs ys : List Value}, Paired ScR vs xs → Paired (fun v y => ScR y (f (scOf v))) (vs.filter fun v => pd (scOf v)) ys → Paired ScR ys ((xs.filter pd).map f) := by
  intro vs ys p
  induction p generalizing ys with
  | nil => intro q; cases q; exact .nil
  | cons h r ih =>
    intro q
    rw [List.filter_cons] at q ⊢
    rw [scOf_of h] at q
    split at q
    · rename_i hp
      cases q with
      | cons hy q' =>
        rw [if_pos hp, List.map_cons]
        rw [scOf_of h] at hy
        exact .cons hy (ih q')
    · rename_i hp
      rw [if_neg hp]
      exact ih q
theorem paired_of_at {xs : List Sc} {vs : List Value} (hl : vs.length = xs.length) (h : ∀ (j : Nat) v, vs[j]? = some v → ∃ d, xs[j]? = some d ∧ ScR v d) : Paired ScR vs xs := by
  induction vs generalizing xs with
  | nil => cases xs with | nil => exact .nil | cons => cases hl
  | cons v vs ih =>
    cases xs with
    | nil => cases hl
    | cons x xs =>
      obtain ⟨d, e, r⟩ := h 0 v rfl
      simp at e
      subst e
      exact .cons r (ih (by simpa using hl) fun j u hj => by
        obtain ⟨d, e, r⟩ := h (j + 1) u (by simpa using hj)
        exact ⟨d, by simpa using e, r⟩)

/-- what the library's rules ask of a turn -/
theorem comp_quiet {scope : Scope} {cl : List (Str × Addr)} {x : Str} {ifs : List Expr} {elt : Expr} {ns' : List Str} {vals' : List (Option D)} {xs : List Sc} {pd : Sc → Bool} {f : Sc → Sc}
    {s s₂ : Shared} {it : Value} {I : Addr} {fp wr : List Addr} {P : Nat → Value → Prop} {St : Nat → Heap → Prop}
    (G : Gl c s.heap) (V : View env ns vals bad s.heap) (hI : ItOk c A bad s it s₂ xs I fp wr P St)
    (hkind : scope.kind = .function) (hx : scope.names.lookup x = some .local) (hcap : Cap env scope cl ns vals ns' vals')
    (htest : ∀ C d, d ∈ xs → EvT c A (compEnvC scope cl C env) (x :: ns') (some (.sc d) :: vals') bad ifs (pd d))
    (helt : ∀ C d, d ∈ xs → pd d = true → Ev c A (compEnvC scope cl C env) (x :: ns') (some (.sc d) :: vals') bad elt (.sc (f d))) :
    QuietOnC c.prog c.w A env scope cl x ifs elt wr P (fun v => pd (scOf v)) (fun v y => ScR y (f (scOf v))) s₂ where
  tests := fun C i v s₃ m₃ E' hC hP hn hm hk _ => by
    obtain ⟨d, hd, hr⟩ := hI.data i v hP
    have k : KH s.heap s₃.heap := fun b o e => hk b o (fun q => by rw [hI.wr b q] at e; cases e) (keeps_kh hI.keeps b o e)
    have := htest C d (List.mem_of_getElem? hd) s₃ E' (G.keeps k) (comp_view V k hkind hx hcap hn hm hr)
    rw [scOf_of hr]
    exact this
  elt := fun C i v s₃ m₃ E' hC hP hp hn hm hk _ => by
    obtain ⟨d, hd, hr⟩ := hI.data i v hP
    have k : KH s.heap s₃.heap := fun b o e => hk b o (fun q => by rw [hI.wr b q] at e; cases e) (keeps_kh hI.keeps b o e)
    rw [scOf_of hr] at hp
    have := helt C d (List.mem_of_getElem? hd) hp s₃ (G.keeps k) (comp_view V k hkind hx hcap hn hm hr)
    rw [scOf_of hr]
    exact wpAny_mono this (fun _ _ q => q) fun _ _ x => x.elim

theorem ev_comp {elt iter : Expr} {x : Str} {px : Pos} {ifs : List Expr} {scope : Scope} {cl : List (Str × Addr)} {pos : Pos} {xs : List Sc} {ns' : List Str} {vals' : List (Option D)}
    (pd : Sc → Bool) (f : Sc → Sc) (hit : EvIt c A env ns vals bad iter xs)
    (hclos : closureFor scope env = pure cl) (hcell : ∀ y ∈ scope.names, y.2 ≠ .cell) (hkind : scope.kind = .function)
    (hnames : ∀ y ∈ scope.names, y.2 = .local → scope.names.lookup y.1 = some .local) (hx : scope.names.lookup x = some .local) (hcap : Cap env scope cl ns vals ns' vals')
    (htest : ∀ C d, d ∈ xs → EvT c A (compEnvC scope cl C env) (x :: ns') (some (.sc d) :: vals') bad ifs (pd d))
    (helt : ∀ C d, d ∈ xs → pd d = true → Ev c A (compEnvC scope cl C env) (x :: ns') (some (.sc d) :: vals') bad elt (.sc (f d)))
    (hz : xs.length ≤ 1000) (hs : ∀ x, foldedSetIterable iter env x = pure x) :
    Ev c A env ns vals bad (.ListComp elt [⟨.Name x px, iter, ifs, 0⟩] scope pos) (.list ((xs.filter pd).map f)) := by
  intro s G V
  refine wpAny_ListComp_free (fun v => pd (scOf v)) (fun v y => ScR y (f (scOf v))) hclos hcell hkind hnames hx (wpAny_mono (hit s G V) (fun v s₁ q => wpAny_mono q (fun it s₂ r => ?_) fun _ _ x => x) fun _ _ x => x) hs
  obtain ⟨I, fp, wr, P, St, hI⟩ := r
  refine ⟨I, fp, wr, xs.length, P, St, hI.it, hI.walks, by rw [sizeLine_eq]; omega, hI.st, fun b hb => ?_, comp_quiet G V hI hkind hx hcap htest helt, ?_⟩
  · obtain ⟨⟨o, e, _⟩, _⟩ := hI.fp b hb; exact Heap.lt_size e
  · intro D h' tk ys vs hD hl hpl hlen hP hF hk
    have k : KH s.heap h' := fun b o e => hk b o (fun q => by rw [hI.wr b q] at e; cases e) (keeps_kh hI.keeps b o e)
    have hD' : s.heap.get? D = none := by
      cases e : s.heap.get? D with
      | none => rfl
      | some o => rw [keeps_kh hI.keeps _ _ e] at hD; cases hD
    refine ⟨⟨D, ys, rfl, V.live.new hD', hpl, paired_comp (paired_of_at hlen fun j v e => hI.data j v (hP j v e)) hF⟩, ?_⟩
    obtain ⟨h₂, t₂, e, k₂⟩ := hI.keeps
    exact ⟨h', tk, by rw [e], k⟩
end
end Mine

/- Fw7 -/
namespace Mine

structure St (c : Cx) (s₀ : Shared) (env : Env) (ns : List Str) (own : List (Addr × List Sc)) (vals : List (Option D)) (s : Shared) : Prop where
  gl : Gl c s₀.heap
  keeps : Keeps s₀ s
  view : View env ns vals (own.map (·.1)) s.heap
  fresh : s₀.heap.objs.size ≤ env.locals
  cells : ∀ x cc, env.cells.lookup x = some cc → (∃ v, s.heap.IsCell cc v) ∧ env.locals < cc
  apart : env.cells.Pairwise fun x y => x.2 ≠ y.2
  nd : ns.Nodup
  owned : ∀ p ∈ own, (∃ vs, s.heap.PlainList p.1 vs ∧ Paired ScR vs.toList p.2) ∧ s₀.heap.get? p.1 = none
  ownd : (own.map (·.1)).Nodup

/-- what a statement leaves alone -/
structure Pres (own : List Addr) (s s' : Shared) : Prop where
  keep : ∀ b o, s.heap.get? b = some o → (∀ es n, o.data ≠ .dict es n) → (∀ v, o.data ≠ .cell v) → b ∉ own → s'.heap.get? b = some o
  stay : ∀ b o, s.heap.get? b = some o → ∃ o', s'.heap.get? b = some o'
theorem Pres.of_kh {own : List Addr} {s s' : Shared} (k : KH s.heap s'.heap) : Pres own s s' := ⟨fun b o e _ _ _ => k b o e, fun b o e => ⟨o, k b o e⟩⟩
theorem Pres.of_keeps {own : List Addr} {s s' : Shared} (k : Keeps s s') : Pres own s s' := .of_kh (keeps_kh k)
def OwnNew (own : List Addr) (s : Shared) (own' : List Addr) : Prop := ∀ a ∈ own', a ∈ own ∨ s.heap.get? a = none
theorem OwnNew.refl (own : List Addr) (s : Shared) : OwnNew own s own := fun _ h => .inl h
theorem Pres.trans {own own' : List Addr} {a b c : Shared} (x : Pres own a b) (n : OwnNew own a own') (y : Pres own' b c) : Pres own a c :=
  ⟨fun p o e h1 h2 h3 => y.keep p o (x.keep p o e h1 h2 h3) h1 h2 (fun q => (n p q).elim h3 fun z => by rw [z] at e; cases e),
   fun p o e => let ⟨o', e'⟩ := x.stay p o e; y.stay p o' e'⟩
theorem OwnNew.trans {own own' own'' : List Addr} {a b : Shared} (x : Pres own a b) (n : OwnNew own a own') (m : OwnNew own' b own'') : OwnNew own a own'' := fun p hp => by
  rcases m p hp with q | q
  · exact n p q
  · right
    cases e : a.heap.get? p with
    | none => rfl
    | some o => obtain ⟨o', e'⟩ := x.stay p o e; rw [q] at e'; cases e'

section
variable {c : Cx} {A : Around} {s₀ : Shared} {env : Env} {ns : List Str} {own : List (Addr × List Sc)} {vals : List (Option D)}

theorem St.g {s : Shared} (X : St c s₀ env ns own vals s) : Gl c s.heap := X.gl.keeps (keeps_kh X.keeps)

theorem St.kept {s s' : Shared} (X : St c s₀ env ns own vals s) (k : Keeps s s') : St c s₀ env ns own vals s' := by
  have kk := keeps_kh k
  exact ⟨X.gl, keeps_trans X.keeps k, X.view.keeps kk, X.fresh, fun x cc e => let ⟨⟨v, h⟩, l⟩ := X.cells x cc e; ⟨⟨v, h.keeps kk⟩, l⟩, X.apart, X.nd,
    fun p hp => let ⟨⟨vs, h, q⟩, n⟩ := X.owned p hp; ⟨⟨vs, plain_seq (bad := []) h kk.seq (by simp), q⟩, n⟩, X.ownd⟩

theorem nodup_get {ns : List Str} (h : ns.Nodup) {i j : Nat} {x : Str} (hi : ns[i]? = some x) (hj : ns[j]? = some x) : i = j := by
  obtain ⟨h1, e1⟩ := List.getElem?_eq_some_iff.mp hi
  obtain ⟨h2, e2⟩ := List.getElem?_eq_some_iff.mp hj
  rcases Nat.lt_trichotomy i j with q | q | q
  · exact absurd (e1.trans e2.symm) ((List.pairwise_iff_getElem.mp h) i j h1 h2 q)
  · exact q
  · exact absurd (e2.trans e1.symm) ((List.pairwise_iff_getElem.mp h) j i h2 h1 q)

/-- the facts stay when one name's box alone is changed -/
theorem St.boxed {s : Shared} {h' : Heap} {tk : Nat} {B : Addr} (X : St c s₀ env ns own vals s) (hs : Heap.SameBut B s.heap h') (hB : env.locals ≤ B)
    (hno : ¬ NotNs s.heap B) (hst : ∃ o, h'.get? B = some o) :
    Pres (own.map (·.1)) s { s with heap := h', toks := tk } ∧ KH s₀.heap h' ∧ SeqKeep (own.map (·.1)) s.heap h' ∧ SeqKeep [] s.heap h' ∧ Live (own.map (·.1)) h' ∧
      (∀ p ∈ own, (∃ vs, h'.PlainList p.1 vs ∧ Paired ScR vs.toList p.2) ∧ s₀.heap.get? p.1 = none) := by
  have sk : SeqKeep [] s.heap h' := fun a o _ e hq => by
    have : a ≠ B := fun q => hno ⟨o, q ▸ e, (fun _ _ z => by obtain ⟨_, _, hq⟩ := hq; rw [hq] at z; cases z), fun _ z => by obtain ⟨_, _, hq⟩ := hq; rw [hq] at z; cases z⟩
    exact (hs.2 a this).trans e
  have pr : Pres (own.map (·.1)) s { s with heap := h', toks := tk } := ⟨fun b o e h1 h2 _ => (hs.2 b fun q => hno ⟨o, q ▸ e, h1, h2⟩).trans e, fun b o e => by
    by_cases q : b = B
    · exact q ▸ hst
    · exact ⟨o, (hs.2 b q).trans e⟩⟩
  refine ⟨pr, fun b o e => (hs.2 b fun q => ?_).trans (keeps_kh X.keeps b o e), fun a o _ e hq => sk a o (by simp) e hq, sk, fun b hb => ?_, fun p hp => ?_⟩
  · subst q
    exact absurd (Nat.lt_of_lt_of_le (Heap.lt_size e) (Nat.le_trans X.fresh hB)) (Nat.lt_irrefl _)
  · obtain ⟨p, hp, rfl⟩ := List.mem_map.mp hb
    obtain ⟨⟨vs, ⟨n, e⟩, _⟩, _⟩ := X.owned p hp
    exact ⟨_, sk _ _ (by simp) e ⟨vs, n, rfl⟩⟩
  · obtain ⟨⟨vs, h, q⟩, n⟩ := X.owned p hp
    exact ⟨⟨vs, plain_seq h sk (by simp), q⟩, n⟩

theorem st_store {s : Shared} {x : Str} {v : Value} {d : D} (i : Nat) (X : St c s₀ env ns own vals s) (hi : ns[i]? = some x) (hk : env.kindOf x = some .local ∨ (env.kindOf x = some .cell ∧ (env.cells.lookup x).isSome = true))
    (hr : Rep (own.map (·.1)) s.heap v d) :
    wpAny (model c.prog c.w) A (storeName env x v) (fun _ s' => St c s₀ env ns own (vals.set i (some d)) s' ∧ Pres (own.map (·.1)) s s') (fun _ _ => False) s := by
  have hp : (env.scope.kind == .class || (env.scope.kind == .module && env.locals != env.globals)) = false := by rw [X.view.fn]; rfl
  obtain ⟨m, hn, hm⟩ := X.view.loc
  obtain ⟨h₀', t₀', es, _⟩ := X.keeps
  rcases hk with hk | ⟨hk, hcc⟩
  · refine wpAny_storeName_local hk hn (fun h' hn' hs => ?_) hp
    obtain ⟨pr, k0, sk, sk0, lv, ow⟩ := X.boxed (tk := s.toks + 1) hs (Nat.le_refl _) (fun q => q.ne hn rfl) (let ⟨o, _, _, e, _⟩ := hn'; ⟨o, e⟩)
    refine ⟨⟨X.gl, ⟨h', s.toks + 1, by rw [es], k0⟩, ⟨X.view.fn, X.view.gl, X.view.bu, ⟨_, hn', fun j y e a b q => ?_⟩, fun j y e a b q => ?_, lv⟩, X.fresh, fun y cc e => ?_, X.apart, X.nd, ow, X.ownd⟩, pr⟩
    · by_cases hj : j = i
      · subst hj
        rw [hi] at a; cases a
        rw [List.getElem?_set] at b
        split at b
        · split at b
          · cases b; exact ⟨v, by simp, hr.mono sk⟩
          · cases b
        · rename_i z; exact absurd rfl z
      · have hy : y ≠ x := fun z => hj (nodup_get X.nd a (z ▸ hi))
        rw [List.getElem?_set, if_neg (fun z => hj z.symm)] at b
        obtain ⟨u, hu, hr'⟩ := hm j y e a b q
        exact ⟨u, by simp [hy, hu], hr'.mono sk⟩
    · by_cases hj : j = i
      · subst hj
        rw [hi] at a; cases a
        rw [hk] at q; cases q
      · rw [List.getElem?_set, if_neg (fun z => hj z.symm)] at b
        obtain ⟨cc, u, h1, h2, h3⟩ := X.view.cel j y e a b q
        exact ⟨cc, u, h1, h2.sameBut hs (Nat.ne_of_gt (X.cells y cc h1).2), h3.mono sk⟩
    · obtain ⟨⟨u, hu⟩, l⟩ := X.cells y cc e
      exact ⟨⟨u, hu.sameBut hs (Nat.ne_of_gt l)⟩, l⟩
  · obtain ⟨cc, hc⟩ := Option.isSome_iff_exists.mp hcc
    obtain ⟨⟨v₀, hv₀⟩, hL⟩ := X.cells x cc hc
    refine wpAny_storeName_cell X.view.fn hk hc hv₀ (fun h' hv' hs => ?_)
    obtain ⟨pr, k0, sk, sk0, lv, ow⟩ := X.boxed (tk := s.toks) hs (Nat.le_of_lt hL) (fun q => q.neCell hv₀ rfl) (let ⟨o, e, _⟩ := hv'; ⟨o, e⟩)
    refine ⟨⟨X.gl, ⟨h', s.toks, by rw [es], k0⟩, ⟨X.view.fn, X.view.gl, X.view.bu, ⟨m, hn.sameBut hs (Nat.ne_of_lt hL), fun j y e a b q => ?_⟩, fun j y e a b q => ?_, lv⟩, X.fresh, fun y c' e => ?_, X.apart, X.nd, ow, X.ownd⟩, pr⟩
    · by_cases hj : j = i
      · subst hj
        rw [hi] at a; cases a
        rw [hk] at q; cases q
      · rw [List.getElem?_set, if_neg (fun z => hj z.symm)] at b
        obtain ⟨u, hu, hr'⟩ := hm j y e a b q
        exact ⟨u, hu, hr'.mono sk⟩
    · by_cases hj : j = i
      · subst hj
        rw [hi] at a; cases a
        rw [List.getElem?_set] at b
        split at b
        · split at b
          · cases b; exact ⟨cc, v, hc, hv', hr.mono sk⟩
          · cases b
        · rename_i z; exact absurd rfl z
      · rw [List.getElem?_set, if_neg (fun z => hj z.symm)] at b
        obtain ⟨c', u, h1, h2, h3⟩ := X.view.cel j y e a b q
        refine ⟨c', u, h1, h2.sameBut hs (fun z => ?_), h3.mono sk⟩
        have : y = x := name_of_addr X.apart (mem_of_lookup h1) (z ▸ mem_of_lookup hc)
        exact hj (nodup_get X.nd a (this ▸ hi))
    · obtain ⟨⟨u, hu⟩, l⟩ := X.cells y c' e
      by_cases z : c' = cc
      · subst z; exact ⟨⟨_, hv'⟩, l⟩
      · exact ⟨⟨u, hu.sameBut hs z⟩, l⟩
end

/-! outcomes -/
inductive Out where
  | next (own : List (Addr × List Sc)) (vals : List (Option D))
  | brk (own : List (Addr × List Sc)) (vals : List (Option D))
  | ret (d : D)
  | retNew (xs : List Sc)

def OutR (c : Cx) (s₀ : Shared) (env : Env) (ns : List Str) (own : List Addr) (s₁ : Shared) : Out → Flow → Shared → Prop
  | .next own' vals, f, s => f = .next ∧ St c s₀ env ns own' vals s ∧ OwnNew own s₁ (own'.map (·.1))
  | .brk own' vals, f, s => f = .brk ∧ St c s₀ env ns own' vals s ∧ OwnNew own s₁ (own'.map (·.1))
  | .ret d, f, s => ∃ v, f = .ret v ∧ Rep [] s.heap v d ∧ Keeps s₀ s
  | .retNew xs, f, s => ∃ a vs, f = .ret (.ref a) ∧ s₀.heap.get? a = none ∧ s.heap.PlainList a vs ∧ Paired ScR vs.toList xs ∧ Keeps s₀ s

section
variable (c : Cx) (A : Around) (env : Env) (ns : List Str)
def Ex (st : Stmt) (own : List (Addr × List Sc)) (vals : List (Option D)) (Φ : Out → Prop) : Prop :=
  ∀ s₀ s, St c s₀ env ns own vals s → wpAny (model c.prog c.w) A (exec st env) (fun f s' => Pres (own.map (·.1)) s s' ∧ ∃ o, Φ o ∧ OutR c s₀ env ns (own.map (·.1)) s o f s') (fun _ _ => False) s
def Exs (sts : List Stmt) (own : List (Addr × List Sc)) (vals : List (Option D)) (Φ : Out → Prop) : Prop :=
  ∀ s₀ s, St c s₀ env ns own vals s → wpAny (model c.prog c.w) A (execs sts env) (fun f s' => Pres (own.map (·.1)) s s' ∧ ∃ o, Φ o ∧ OutR c s₀ env ns (own.map (·.1)) s o f s') (fun _ _ => False) s
/-- the rest of a block behind a statement -/
def After (rest : List Stmt) (Φ : Out → Prop) : Out → Prop
  | .next own vals => Exs c A env ns rest own vals Φ
  | o => Φ o
/-- the turns of a for -/
def Loop (i : Nat) (body : List Stmt) (Φ : Out → Prop) : List Sc → List (Addr × List Sc) → List (Option D) → Prop
  | [], own, vals => Φ (.next own vals)
  | d :: ds, own, vals => Exs c A env ns body own (vals.set i (some (.sc d))) fun
    | .next o v => Loop i body Φ ds o v
    | .brk o v => Φ (.next o v)
    | .ret d => Φ (.ret d)
    | .retNew xs => Φ (.retNew xs)
end

section
variable {c : Cx} {A : Around} {env : Env} {ns : List Str} {own : List (Addr × List Sc)} {vals : List (Option D)} {Φ : Out → Prop}

theorem OutR.later {s₀ s s₁ s₂ : Shared} {own own₁ : List Addr} {o : Out} {f : Flow} (x : Pres own s s₁) (n : OwnNew own s own₁) (h : OutR c s₀ env ns own₁ s₁ o f s₂) : OutR c s₀ env ns own s o f s₂ := by
  cases o with
  | next own' vals' => exact ⟨h.1, h.2.1, .trans x n h.2.2⟩
  | brk own' vals' => exact ⟨h.1, h.2.1, .trans x n h.2.2⟩
  | ret d => exact h
  | retNew xs => exact h

theorem exs_nil (h : Φ (.next own vals)) : Exs c A env ns [] own vals Φ := fun s₀ s X => wpAny_execs_nil ⟨.of_keeps (keeps_refl s), _, h, rfl, X, .refl _ _⟩
theorem exs_cons {st : Stmt} {rest : List Stmt} (h : Ex c A env ns st own vals (After c A env ns rest Φ)) : Exs c A env ns (st :: rest) own vals Φ := by
  intro s₀ s X
  refine wpAny_execs_cons (wpAny_mono (h s₀ s X) (fun f s' q => ?_) fun _ _ x => x)
  obtain ⟨pr, o, ho, hr⟩ := q
  cases o with
  | next own' vals' =>
    obtain ⟨rfl, X', n⟩ := hr
    exact wpAny_mono (ho s₀ s' X') (fun f s'' q => ⟨pr.trans n q.1, let ⟨o, a, b⟩ := q.2; ⟨o, a, b.later pr n⟩⟩) fun _ _ x => x
  | brk own' vals' => obtain ⟨rfl, X'⟩ := hr; exact ⟨pr, .brk own' vals', ho, rfl, X'⟩
  | ret d => obtain ⟨v, rfl, X'⟩ := hr; exact ⟨pr, .ret d, ho, v, rfl, X'⟩
  | retNew xs => obtain ⟨a, vs, rfl, X'⟩ := hr; exact ⟨pr, .retNew xs, ho, a, vs, rfl, X'⟩
theorem exs_mono {sts : List Stmt} {Ψ : Out → Prop} (h : Exs c A env ns sts own vals Ψ) (k : ∀ o, Ψ o → Φ o) : Exs c A env ns sts own vals Φ :=
  fun s₀ s X => wpAny_mono (h s₀ s X) (fun f s' ⟨p, o, ho, r⟩ => ⟨p, o, k o ho, r⟩) fun _ _ x => x
/-- names may be forgotten -/
theorem st_forget {s₀ s : Shared} {vals' : List (Option D)} (X : St c s₀ env ns own vals s) (k : ∀ (i : Nat) d, vals'[i]? = some (some d) → vals[i]? = some (some d)) : St c s₀ env ns own vals' s := by
  refine ⟨X.gl, X.keeps, ⟨X.view.fn, X.view.gl, X.view.bu, ?_, fun i x d a b e => X.view.cel i x d a (k i d b) e, X.view.live⟩, X.fresh, X.cells, X.apart, X.nd, X.owned, X.ownd⟩
  obtain ⟨m, hn, hm⟩ := X.view.loc
  exact ⟨m, hn, fun i x d a b e => hm i x d a (k i d b) e⟩
theorem exs_forget {sts : List Stmt} {vals' : List (Option D)} (h : Exs c A env ns sts own vals' Φ) (k : ∀ (i : Nat) d, vals'[i]? = some (some d) → vals[i]? = some (some d)) : Exs c A env ns sts own vals Φ :=
  fun s₀ s X => h s₀ s (st_forget X k)

abbrev KindOk (env : Env) (x : Str) : Prop := env.kindOf x = some .local ∨ (env.kindOf x = some .cell ∧ (env.cells.lookup x).isSome = true)

/-- a store behind an evaluation -/
theorem store_out {s₀ s s₁ : Shared} {x : Str} {v : Value} {d : D} (i : Nat) (X : St c s₀ env ns own vals s) (k : Keeps s s₁) (hi : ns[i]? = some x) (hk : KindOk env x)
    (hr : Rep (own.map (·.1)) s₁.heap v d) (hn : Φ (.next own (vals.set i (some d)))) :
    wpAny (model c.prog c.w) A (storeName env x v) (fun _ s' => Pres (own.map (·.1)) s s' ∧ ∃ o, Φ o ∧ OutR c s₀ env ns (own.map (·.1)) s o .next s') (fun _ _ => False) s₁ :=
  wpAny_mono (st_store i (X.kept k) hi hk hr) (fun _ s' q => ⟨(Pres.of_keeps k).trans (.refl _ _) q.2, _, hn, rfl, q.1, .refl _ _⟩) fun _ _ x => x

theorem ex_assign {x : Str} {p pos : Pos} {e : Expr} {d : D} (i : Nat) (h : Ev c A env ns vals (own.map (·.1)) e d) (hi : ns[i]? = some x) (hk : KindOk env x)
    (hn : Φ (.next own (vals.set i (some d)))) (hs : swapsWith e (some (.Name x p)) pos.line env = pure false) : Ex c A env ns (.Assign [.Name x p] e pos) own vals Φ := by
  intro s₀ s X
  exact wpAny_Assign_Name (wpAny_mono (h s X.g X.view) (fun v s₁ q => store_out i X q.2 hi hk q.1 hn) fun _ _ x => x) hs

theorem ex_if {test : Expr} {body orelse : List Stmt} {pos : Pos} {b : Bool} (h : EvB c A env ns vals (own.map (·.1)) test b) (ht : b = true → Exs c A env ns body own vals Φ) (he : b = false → Exs c A env ns orelse own vals Φ) :
    Ex c A env ns (.If test body orelse pos) own vals Φ := by
  intro s₀ s X
  refine wpAny_If (wpAny_mono (h s X.g X.view) (fun r s₁ q => ?_) fun _ _ x => x)
  obtain ⟨rfl, k⟩ := q
  have go : ∀ sts, Exs c A env ns sts own vals Φ → wpAny (model c.prog c.w) A (execs sts env) (fun f s' => Pres (own.map (·.1)) s s' ∧ ∃ o, Φ o ∧ OutR c s₀ env ns (own.map (·.1)) s o f s') (fun _ _ => False) s₁ := fun sts h =>
    wpAny_mono (h s₀ s₁ (X.kept k)) (fun f s' q => ⟨(Pres.of_keeps k).trans (.refl _ _) q.1, let ⟨o, a, b⟩ := q.2; ⟨o, a, b.later (.of_keeps k) (.refl _ _)⟩⟩) fun _ _ x => x
  cases r with
  | true => exact go body (ht rfl)
  | false => exact go orelse (he rfl)

theorem ex_ret {e : Expr} {pos : Pos} {d : D} (h : Ev c A env ns vals (own.map (·.1)) e d) (hn : Φ (.ret d)) : Ex c A env ns (.Return (some e) pos) own vals Φ := by
  intro s₀ s X
  refine wpAny_Return_some (wpAny_mono (h s X.g X.view) (fun v s₁ q => ?_) fun _ _ x => x)
  exact ⟨.of_keeps q.2, _, hn, v, rfl, q.1.none, (X.kept q.2).keeps⟩

theorem ex_retOwn {e : Expr} {pos : Pos} {a : Addr} {xs : List Sc} (h : Ev c A env ns vals (own.map (·.1)) e (.own a)) (ho : (a, xs) ∈ own) (hn : Φ (.retNew xs)) : Ex c A env ns (.Return (some e) pos) own vals Φ := by
  intro s₀ s X
  refine wpAny_Return_some (wpAny_mono (h s X.g X.view) (fun v s₁ q => ?_) fun _ _ x => x)
  obtain ⟨q, k⟩ := q
  have q' : v = .ref a := q
  subst q'
  obtain ⟨⟨vs, h1, h2⟩, h3⟩ := (X.kept k).owned _ ho
  exact ⟨.of_keeps k, _, hn, a, vs, rfl, h3, h1, h2, (X.kept k).keeps⟩

theorem ex_break {pos : Pos} (hn : Φ (.brk own vals)) : Ex c A env ns (.Break pos) own vals Φ := fun s₀ s X => wpAny_Break ⟨.of_keeps (keeps_refl s), _, hn, rfl, X, .refl _ _⟩

theorem str_cat (a b : Str) {t t' : Tok} {s : Shared} {Q : Value → Shared → Prop} (hz : a.length + b.length ≤ 100000) (h : ∀ tk s', Keeps s s' → Q (.str (a ++ b) tk) s') :
    (if a.length == 0 then Made.val (.str b t') else if b.length == 0 then Made.val (.str a t) else Made.str (a ++ b)).post Q s := by
  split
  · rename_i h0
    have e : a ++ b = b := by
      have : a = Str.empty := Str.ext' (by have : a.cps.size = 0 := by simpa [Str.length] using h0
                                           simpa [Str.empty] using this)
      rw [this]; exact Str.empty_append b
    have := h t' s (keeps_refl s)
    rw [e] at this
    exact this
  · split
    · rename_i h0
      have e : a ++ b = a := by
        have : b = Str.empty := Str.ext' (by have : b.cps.size = 0 := by simpa [Str.length] using h0
                                             simpa [Str.empty] using this)
        rw [this]; exact Str.append_empty a
      have := h t s (keeps_refl s)
      rw [e] at this
      exact this
    · exact ⟨by rw [Str.length_append, sizeLine_eq]; omega, h _ _ (keeps_tok s _)⟩
theorem ev_addStr {bad : List Addr} {l r : Expr} {pos : Pos} {a b : Str} (hl : Ev c A env ns vals bad l (.sc (.str a))) (hr : Ev c A env ns vals bad r (.sc (.str b))) (hz : a.length + b.length ≤ 100000) :
    Ev c A env ns vals bad (.BinOp l .Add r pos) (.sc (.str (a ++ b))) :=
  ev_binop hl hr fun s v₁ v₂ _ _ h₁ h₂ => by
    have h₁' : ScR v₁ (.str a) := h₁
    have h₂' : ScR v₂ (.str b) := h₂
    cases h₁'; cases h₂'
    exact P.add_str (str_cat a b hz fun tk s' k => ⟨.str _ _, k⟩)
theorem ex_addStr {x : Str} {p pos : Pos} {e : Expr} {a b : Str} (i : Nat) (h : Ev c A env ns vals (own.map (·.1)) e (.sc (.str b))) (hi : ns[i]? = some x) (hv : vals[i]? = some (some (.sc (.str a)))) (hk : env.kindOf x = some .local)
    (hz : a.length + b.length ≤ 100000) (hn : Φ (.next own (vals.set i (some (.sc (.str (a ++ b))))))) : Ex c A env ns (.AugAssign (.Name x p) .Add e pos) own vals Φ := by
  intro s₀ s X
  obtain ⟨m, hns, hm⟩ := X.view.loc
  obtain ⟨v, hvx, hr⟩ := hm i x _ hi hv hk
  have hr' : ScR v (.str a) := hr
  obtain ⟨t, rfl⟩ : ∃ t, v = .str a t := by cases hr'; exact ⟨_, rfl⟩
  refine wpAny_AugAssign_Name (wpAny_loadName_local X.view.fn hk hns hvx (wpAny_mono (h s X.g X.view) (fun u s₁ q => ?_) fun _ _ x => x))
  obtain ⟨q, k⟩ := q
  have q' : ScR u (.str b) := q
  obtain ⟨t', rfl⟩ : ∃ t, u = .str b t := by cases q'; exact ⟨_, rfl⟩
  exact P.iadd_str (str_cat a b hz fun tk s' k' => store_out i X (keeps_trans k k') hi (.inl hk) (d := .sc (.str (a ++ b))) (ScR.str _ _) hn)
end
end Mine

/- Fw8 -/
namespace Mine
section
variable {c : Cx} {A : Around} {env : Env} {ns : List Str} {own : List (Addr × List Sc)} {vals : List (Option D)} {Φ : Out → Prop}

/-- what the walk of an iterator asks of the heap between two turns -/
theorem notNs_pres {own : List Addr} {s s' : Shared} {b : Addr} (p : Pres own s s') (h : NotNs s.heap b) (hb : b ∉ own) : NotNs s'.heap b := by
  obtain ⟨o, e, h1, h2⟩ := h
  exact ⟨o, p.keep b o e h1 h2 hb, h1, h2⟩

theorem ex_for {x : Str} {px pos : Pos} {iter : Expr} {body : List Stmt} {xs : List Sc} (i : Nat) (hit : EvIt c A env ns vals (own.map (·.1)) iter xs) (hi : ns[i]? = some x) (hk : KindOk env x)
    (hl : Loop c A env ns i body Φ xs own vals) (hs : ∀ x, foldedSetIterable iter env x = pure x) (ht : ∀ it v, letOwnedTupleGo (.Name x px) it v = pure ()) : Ex c A env ns (.For (.Name x px) iter body [] pos) own vals Φ := by
  intro s₀ s X
  refine wpAny_For (wpAny_mono (hit s X.g X.view) (fun v s₁ q => wpAny_mono q (fun it s₂ r => ?_) fun _ _ x => x) fun _ _ x => x) hs
  obtain ⟨I, fp, wr, P, W, hI⟩ := r
  have hit' := hI.it
  subst hit'
  have K := hI.walks
  refine codeAny_forLoop_any (fun k s' => ∃ j own' vals', St c s₀ env ns own' vals' s' ∧ W j s'.heap ∧ Loop c A env ns i body Φ (xs.drop j) own' vals' ∧ j ≤ xs.length ∧ k = xs.length + 1 - j ∧
    (∀ b ∈ fp, NotNs s'.heap b ∧ b ∉ own'.map (·.1)) ∧ Pres (own.map (·.1)) s s' ∧ OwnNew (own.map (·.1)) s (own'.map (·.1))) ?_ (xs.length + 1) ?_
  · rintro k s' ⟨j, own', vals', X', hW, hL, hj, rfl, hfp, pr, nw⟩
    have hwr₀ : ∀ b ∈ wr, s₀.heap.get? b = none := fun b hb => by
      cases e : s₀.heap.get? b with
      | none => rfl
      | some o => have := keeps_kh X.keeps b o e; rw [hI.wr b hb] at this; cases this
    -- a step of the iterator changes nothing but its own object
    have walked : ∀ (h₁ : Heap) (tk : Nat), (∀ b o, b ∉ wr → s'.heap.get? b = some o → h₁.get? b = some o) →
        St c s₀ env ns own' vals' { s' with heap := h₁, toks := tk } ∧ Pres (own.map (·.1)) s { s' with heap := h₁, toks := tk } := by
      intro h₁ tk hk₁
      have kd := hI.kind j _ hW
      have notSeq : ∀ b o, s'.heap.get? b = some o → (∃ its n, o.data = .seq its n) → b ∉ wr := fun b o e hq hb => by
        obtain ⟨o', e', _, _, h3⟩ := kd b hb
        rw [e] at e'; cases e'
        obtain ⟨its, n, hq⟩ := hq
        exact h3 _ _ hq
      have sk : SeqKeep [] s'.heap h₁ := fun a o _ e hq => hk₁ a o (notSeq a o e hq) e
      have sk' : SeqKeep (own'.map (·.1)) s'.heap h₁ := fun a o _ e hq => hk₁ a o (notSeq a o e hq) e
      have nL : env.locals ∉ wr := fun q => by
        obtain ⟨m, hn, _⟩ := X'.view.loc
        obtain ⟨o', e', h1, h2, _⟩ := kd _ q
        exact NotNs.ne ⟨o', e', h1, h2⟩ hn rfl
      have nC : ∀ cc v, s'.heap.IsCell cc v → h₁.IsCell cc v := fun cc v hc => by
        obtain ⟨o, e, hd⟩ := id hc
        refine ⟨o, hk₁ cc o (fun q => ?_) e, hd⟩
        obtain ⟨o', e', h1, h2, _⟩ := kd _ q
        exact NotNs.neCell ⟨o', e', h1, h2⟩ hc rfl
      refine ⟨⟨X'.gl, ?_, ⟨X'.view.fn, X'.view.gl, X'.view.bu, ?_, fun a y d e1 e2 q => ?_, fun b hb => ?_⟩, X'.fresh, fun y cc e => ?_, X'.apart, X'.nd, fun p hp => ?_, X'.ownd⟩, ⟨fun b o e h1 h2 h3 => ?_, fun b o e => ?_⟩⟩
      · obtain ⟨h₂, t₂, e, k₂⟩ := X'.keeps
        refine ⟨h₁, tk, by rw [e], fun b o e' => hk₁ b o (fun q => ?_) (keeps_kh X'.keeps b o e')⟩
        rw [hwr₀ b q] at e'; cases e'
      · obtain ⟨m, hn, hm⟩ := X'.view.loc
        obtain ⟨o, es, ep, e, r⟩ := hn
        refine ⟨m, ⟨o, es, ep, hk₁ _ o nL e, r⟩, fun a y d e1 e2 q => ?_⟩
        obtain ⟨u, hu, hr⟩ := hm a y d e1 e2 q
        exact ⟨u, hu, hr.mono sk'⟩
      · obtain ⟨cc, u, h1, h2, h3⟩ := X'.view.cel a y d e1 e2 q
        exact ⟨cc, u, h1, nC cc _ h2, h3.mono sk'⟩
      · obtain ⟨p, hp, rfl⟩ := List.mem_map.mp hb
        obtain ⟨⟨vs, ⟨n, e⟩, _⟩, _⟩ := X'.owned p hp
        exact ⟨_, sk _ _ (by simp) e ⟨vs, n, rfl⟩⟩
      · obtain ⟨⟨u, hu⟩, l⟩ := X'.cells y cc e
        exact ⟨⟨u, nC cc u hu⟩, l⟩
      · obtain ⟨⟨vs, h, q⟩, n⟩ := X'.owned p hp
        exact ⟨⟨vs, plain_seq h sk (by simp), q⟩, n⟩
      · exact hk₁ b o (fun q => by rw [hI.wr b q] at e; cases e) (pr.keep b o e h1 h2 h3)
      · obtain ⟨o', e'⟩ := pr.stay b o e
        exact ⟨o', hk₁ b o' (fun q => by rw [hI.wr b q] at e; cases e) e'⟩
    by_cases hlt : j < xs.length
    · refine K.item j _ _ _ hlt hW fun v h₁ tk₁ hP hW₁ hk₁ => ?_
      obtain ⟨d, hd, hr⟩ := hI.data j v hP
      obtain ⟨X₁, pr₁⟩ := walked h₁ tk₁ hk₁
      have fp₁ : ∀ b ∈ fp, NotNs h₁ b ∧ b ∉ own'.map (·.1) := fun b hb => by
        refine ⟨?_, (hfp b hb).2⟩
        by_cases q : b ∈ wr
        · obtain ⟨o, e, h1, h2, _⟩ := hI.kind _ _ hW₁ b q
          exact ⟨o, e, h1, h2⟩
        · obtain ⟨o, e, h1, h2⟩ := (hfp b hb).1
          exact ⟨o, hk₁ b o q e, h1, h2⟩
      refine wpAny_of_eq (ht _ _) ?_
      refine wpAny_assign_Name (wpAny_mono (st_store i X₁ hi hk (d := .sc d) hr) (fun _ s₂' q => ?_) fun _ _ x => x.elim)
      obtain ⟨X₂, pr₂⟩ := q
      have hdrop : xs.drop j = d :: xs.drop (j + 1) := by
        rw [List.drop_eq_getElem_cons hlt]
        rw [List.getElem?_eq_getElem hlt] at hd
        cases hd; rfl
      rw [hdrop] at hL
      refine wpAny_mono (hL s₀ s₂' X₂) (fun f s₃ q => ?_) fun _ _ x => x.elim
      obtain ⟨pr₃, o, ho, hr'⟩ := q
      have fr : ∀ b ∈ fp, ∀ o, h₁.get? b = some o → s₃.heap.get? b = some o := fun b hb o e => by
        obtain ⟨⟨o', e', h1, h2⟩, h3⟩ := fp₁ b hb
        rw [e] at e'; cases e'
        exact pr₃.keep b o (pr₂.keep b o e h1 h2 h3) h1 h2 h3
      have pr' : Pres (own.map (·.1)) s s₃ := (pr₁.trans nw pr₂).trans nw pr₃
      have pr'' : Pres (own.map (·.1)) s s₂' := pr₁.trans nw pr₂
      cases o with
      | next own'' vals'' =>
        obtain ⟨rfl, X₃, n₃⟩ := hr'
        refine ⟨xs.length + 1 - (j + 1), by omega, j + 1, own'', vals'', X₃, K.frame _ _ _ hW₁ fr, ho, hlt, rfl, fun b hb => ?_, pr', .trans pr'' nw n₃⟩
        obtain ⟨⟨o', e', h1, h2⟩, h3⟩ := fp₁ b hb
        refine ⟨⟨o', fr b hb o' e', h1, h2⟩, fun q => ?_⟩
        rcases n₃ b q with z | z
        · exact h3 z
        · rw [pr₂.keep b o' e' h1 h2 h3] at z; cases z
      | brk own'' vals'' =>
        obtain ⟨rfl, X₃, n₃⟩ := hr'
        exact ⟨pr', .next own'' vals'', ho, rfl, X₃, .trans pr'' nw n₃⟩
      | ret d' =>
        obtain ⟨u, rfl, z⟩ := hr'
        exact ⟨pr', .ret d', ho, u, rfl, z⟩
      | retNew ys =>
        obtain ⟨a, vs, rfl, z⟩ := hr'
        exact ⟨pr', .retNew ys, ho, a, vs, rfl, z⟩
    · have hin : j = xs.length := by omega
      subst hin
      refine K.done _ _ _ hW fun h₁ tk₁ hk₁ => wpAny_execs_nil ?_
      obtain ⟨X₁, pr₁⟩ := walked h₁ tk₁ hk₁
      rw [List.drop_length] at hL
      exact ⟨pr₁, .next own' vals', hL, rfl, X₁, nw⟩
  · exact ⟨0, own, vals, X.kept hI.keeps, hI.st, by simpa using hl, Nat.zero_le _, rfl, hI.fp, .of_keeps hI.keeps, .refl _ _⟩

/-- the turns by an invariant -/
theorem loop_inv {i : Nat} {body : List Stmt} {xs : List Sc} (J : Nat → List (Addr × List Sc) → List (Option D) → Prop) (h0 : J 0 own vals)
    (turn : ∀ j d own vals, xs[j]? = some d → J j own vals → Exs c A env ns body own (vals.set i (some (.sc d))) fun
      | .next o v => J (j + 1) o v
      | .brk o v => Φ (.next o v)
      | .ret d => Φ (.ret d)
      | .retNew ys => Φ (.retNew ys))
    (fin : ∀ own vals, J xs.length own vals → Φ (.next own vals)) : Loop c A env ns i body Φ xs own vals := by
  suffices ∀ (ys : List Sc) (j : Nat) own vals, xs.drop j = ys → J j own vals → j ≤ xs.length → Loop c A env ns i body Φ ys own vals from this xs 0 own vals (by simp) h0 (Nat.zero_le _)
  intro ys
  induction ys with
  | nil =>
    intro j own vals e hJ hj
    have : j = xs.length := by
      have := congrArg List.length e
      simp at this; omega
    subst this
    exact fin _ _ hJ
  | cons y ys ih =>
    intro j own vals e hJ hj
    have hlt : j < xs.length := by
      rcases Nat.lt_or_ge j xs.length with h | h
      · exact h
      · rw [List.drop_of_length_le h] at e; cases e
    rw [List.drop_eq_getElem_cons hlt] at e
    injection e with e1 e2
    refine exs_mono (turn j y own vals (by rw [List.getElem?_eq_getElem hlt, e1]) hJ) fun o ho => ?_
    cases o with
    | next own' vals' => exact ih (j + 1) own' vals' e2 ho hlt
    | brk own' vals' => exact ho
    | ret d => exact ho
    | retNew zs => exact ho
end
end Mine

/- Fw9 -/
namespace Mine
section
variable {c : Cx} {A : Around} {s₀ : Shared} {env : Env} {ns : List Str} {own : List (Addr × List Sc)} {vals : List (Option D)} {Φ : Out → Prop}

/-- a local name is set and new objects are made; all else stays -/
theorem St.setLocal {s : Shared} {h' : Heap} {tk : Nat} {x : Str} {v : Value} {d : D} {m : Str → Option Value} (i : Nat) (X : St c s₀ env ns own vals s) (hi : ns[i]? = some x) (hk : env.kindOf x = some .local)
    (hm : ∀ (i : Nat) (x : Str) (d : D), ns[i]? = some x → vals[i]? = some (some d) → env.kindOf x = some .local → ∃ v, m x = some v ∧ Rep (own.map (·.1)) s.heap v d)
    (hn' : h'.Ns env.locals (fun y => if y = x then some v else m y)) (hk' : ∀ b o, b ≠ env.locals → s.heap.get? b = some o → h'.get? b = some o) (hr : Rep (own.map (·.1)) h' v d) :
    St c s₀ env ns own (vals.set i (some d)) { s with heap := h', toks := tk } ∧ Pres (own.map (·.1)) s { s with heap := h', toks := tk } := by
  obtain ⟨m₀, hn, _⟩ := X.view.loc
  have notL : ∀ b, NotNs s.heap b → b ≠ env.locals := fun b q => q.ne hn
  have sk : ∀ bad, SeqKeep bad s.heap h' := fun bad a o _ e hq => hk' a o (notL a ⟨o, e, (fun _ _ z => by obtain ⟨_, _, hq⟩ := hq; rw [hq] at z; cases z), fun _ z => by obtain ⟨_, _, hq⟩ := hq; rw [hq] at z; cases z⟩) e
  have cl : ∀ cc u, env.locals < cc → s.heap.IsCell cc u → h'.IsCell cc u := fun cc u l ⟨o, e, hd⟩ => ⟨o, hk' cc o (Nat.ne_of_gt l) e, hd⟩
  obtain ⟨h₀', t₀', es, _⟩ := X.keeps
  refine ⟨⟨X.gl, ⟨h', tk, by rw [es], fun b o e => hk' b o (Nat.ne_of_lt (Nat.lt_of_lt_of_le (Heap.lt_size e) X.fresh)) (keeps_kh X.keeps b o e)⟩, ⟨X.view.fn, X.view.gl, X.view.bu, ⟨_, hn', fun j y e a b q => ?_⟩, fun j y e a b q => ?_, fun b hb => ?_⟩, X.fresh, fun y cc e => ?_, X.apart, X.nd, fun p hp => ?_, X.ownd⟩, ⟨fun b o e h1 h2 _ => hk' b o (notL b ⟨o, e, h1, h2⟩) e, fun b o e => ?_⟩⟩
  · by_cases hj : j = i
    · subst hj
      rw [hi] at a; cases a
      rw [List.getElem?_set] at b
      split at b
      · split at b
        · cases b; exact ⟨v, by simp, hr⟩
        · cases b
      · rename_i z; exact absurd rfl z
    · have hy : y ≠ x := fun z => hj (nodup_get X.nd a (z ▸ hi))
      rw [List.getElem?_set, if_neg (fun z => hj z.symm)] at b
      obtain ⟨u, hu, hr'⟩ := hm j y e a b q
      exact ⟨u, by simp [hy, hu], hr'.mono (sk _)⟩
  · by_cases hj : j = i
    · subst hj
      rw [hi] at a; cases a
      rw [hk] at q; cases q
    · rw [List.getElem?_set, if_neg (fun z => hj z.symm)] at b
      obtain ⟨cc, u, h1, h2, h3⟩ := X.view.cel j y e a b q
      exact ⟨cc, u, h1, cl _ _ (X.cells y cc h1).2 h2, h3.mono (sk _)⟩
  · obtain ⟨p, hp, rfl⟩ := List.mem_map.mp hb
    obtain ⟨⟨vs, ⟨n, e⟩, _⟩, _⟩ := X.owned p hp
    exact ⟨_, sk [] _ _ (by simp) e ⟨vs, n, rfl⟩⟩
  · obtain ⟨⟨u, hu⟩, l⟩ := X.cells y cc e
    exact ⟨⟨u, cl _ _ l hu⟩, l⟩
  · obtain ⟨⟨vs, h, q⟩, n⟩ := X.owned p hp
    exact ⟨⟨vs, plain_seq h (sk []) (by simp), q⟩, n⟩
  · by_cases q : b = env.locals
    · obtain ⟨o', _, _, e', _⟩ := hn'
      exact ⟨o', q ▸ e'⟩
    · exact ⟨o, hk' b o q e⟩

theorem ex_assignComp {elt iter : Expr} {x y : Str} {px py spos : Pos} {ifs : List Expr} {scope : Scope} {cl : List (Str × Addr)} {pos : Pos} {xs : List Sc} {ns' : List Str} {vals' : List (Option D)}
    (i : Nat) (pd : Sc → Bool) (f : Sc → Sc) (hi : ns[i]? = some y) (hy : env.kindOf y = some .local) (hit : EvIt c A env ns vals (own.map (·.1)) iter xs)
    (hsw : swapsWith (.ListComp elt [⟨.Name x px, iter, ifs, 0⟩] scope pos) (some (.Name y py)) spos.line env = pure true)
    (hclos : closureFor scope env = pure cl) (hcell : ∀ y ∈ scope.names, y.2 ≠ .cell) (hkind : scope.kind = .function)
    (hnames : ∀ y ∈ scope.names, y.2 = .local → scope.names.lookup y.1 = some .local) (hx : scope.names.lookup x = some .local) (hcap : Cap env scope cl ns vals ns' vals')
    (htest : ∀ C d, d ∈ xs → EvT c A (compEnvC scope cl C env) (x :: ns') (some (.sc d) :: vals') (own.map (·.1)) ifs (pd d))
    (helt : ∀ C d, d ∈ xs → pd d = true → Ev c A (compEnvC scope cl C env) (x :: ns') (some (.sc d) :: vals') (own.map (·.1)) elt (.sc (f d)))
    (hz : xs.length ≤ 1000) (hs : ∀ x, foldedSetIterable iter env x = pure x) (hn : Φ (.next own (vals.set i (some (.list ((xs.filter pd).map f)))))) :
    Ex c A env ns (.Assign [.Name y py] (.ListComp elt [⟨.Name x px, iter, ifs, 0⟩] scope pos) spos) own vals Φ := by
  intro s₀ s X
  have hp : (env.scope.kind == .class || (env.scope.kind == .module && env.locals != env.globals)) = false := by rw [X.view.fn]; rfl
  refine wpAny_Assign_ListComp_free (fun v => pd (scOf v)) (fun v y => ScR y (f (scOf v))) hsw hclos hcell hkind hnames hx hy hp
    (wpAny_mono (hit s X.g X.view) (fun v s₁ q => wpAny_mono q (fun it s₂ r => ?_) fun _ _ x => x) fun _ _ x => x) hs
  obtain ⟨I, fp, wr, P, W, hI⟩ := r
  obtain ⟨m, hm0, hm⟩ := X.view.loc
  have kk := keeps_kh hI.keeps
  have nL : env.locals ∉ wr := fun q => by
    obtain ⟨o', e', h1, h2, _⟩ := hI.kind _ _ hI.st _ q
    exact NotNs.ne ⟨o', e', h1, h2⟩ (hm0.keeps kk) rfl
  refine ⟨I, fp, wr, xs.length, P, W, m, hI.it, hI.walks, by rw [sizeLine_eq]; omega, hI.st, fun b hb => ?_, nL, hm0.keeps kk, comp_quiet X.g X.view hI hkind hx hcap htest helt, ?_⟩
  · obtain ⟨⟨o, e, _⟩, _⟩ := hI.fp b hb; exact Heap.lt_size e
  · intro D h' tk ys vs hD hl hpl hlen hP hF hn' hk
    have hD' : s.heap.get? D = none := by
      cases e : s.heap.get? D with
      | none => rfl
      | some o => rw [kk _ _ e] at hD; cases hD
    obtain ⟨h₂, t₂, e₂, k₂⟩ := hI.keeps
    have := St.setLocal (tk := tk) (h' := h') i X hi hy hm hn' (fun b o hb e => hk b o hb (fun q => by rw [hI.wr b q] at e; cases e) (kk b o e))
      (d := .list ((xs.filter pd).map f)) ⟨D, ys, rfl, X.view.live.new hD', hpl, paired_comp (paired_of_at hlen fun j v e => hI.data j v (hP j v e)) hF⟩
    have e : ({ s₂ with heap := h', toks := tk } : Shared) = { s with heap := h', toks := tk } := by rw [e₂]
    rw [e]
    exact ⟨this.2, _, hn, rfl, this.1, .refl _ _⟩

/-! owned lists -/
theorem ex_assignOwn {x : Str} {p pos dpos : Pos} {es : List Expr} {xs : List Sc} (i : Nat) (h : Evs c A env ns vals (own.map (·.1)) es (xs.map .sc)) (hi : ns[i]? = some x) (hk : env.kindOf x = some .local) (hz : xs.length ≤ 1000)
    (hn : ∀ a, a ∉ own.map (·.1) → Φ (.next ((a, xs) :: own) (vals.set i (some (.own a))))) (hs : swapsWith (.List es dpos) (some (.Name x p)) pos.line env = pure false) : Ex c A env ns (.Assign [.Name x p] (.List es dpos) pos) own vals Φ := by
  intro s₀ s X
  refine wpAny_Assign_Name (wpAny_List_spliced (wpAny_mono (h dpos s X.g X.view) (fun vs s₁ q => ⟨?_, ?_⟩) fun _ _ x => x)) hs
  · have := q.1.length; rw [List.length_map] at this; rw [sizeLine_eq]; omega
  · have X₁ := X.kept q.2
    have lv := X₁.view.live
    have hf : s₁.heap.objs.size ∉ own.map (·.1) := lv.fresh (Nat.le_refl _)
    have k₁ : Keeps s₁ { s₁ with heap := s₁.heap.push { cls := .type "list", data := .seq vs.toArray } } := keeps_push' _ _
    have X₂ := X₁.kept k₁
    have new : s₁.heap.get? s₁.heap.objs.size = none := Heap.get?_none_of_le (Nat.le_refl _)
    have below : ∀ h : Heap, KH h s₁.heap → h.get? s₁.heap.objs.size = none := fun h k => by
      cases e : h.get? s₁.heap.objs.size with
      | none => rfl
      | some o => rw [k _ _ e] at new; cases new
    -- lists that stood before are not the new one
    have av : ∀ {v : Value} {d : D}, Rep (own.map (·.1)) s₁.heap v d → Rep (s₁.heap.objs.size :: own.map (·.1)) (s₁.heap.push { cls := .type "list", data := .seq vs.toArray }) v d := by
      intro v d r
      have r' := r.mono (h' := s₁.heap.push { cls := .type "list", data := .seq vs.toArray }) (fun a o _ e _ => Heap.get?_push_of_some _ e)
      have ne : ∀ (a : Addr) o, s₁.heap.get? a = some o → a ∉ own.map (·.1) → a ∉ s₁.heap.objs.size :: own.map (·.1) := fun a o e h q => by
        rcases List.mem_cons.mp q with z | z
        · rw [z, new] at e; cases e
        · exact h z
      cases d with
      | sc d => exact r
      | list ys => 
        obtain ⟨a, us, e, ha, hp, hq⟩ := r
        obtain ⟨n, hp'⟩ := id hp
        exact ⟨a, us, e, ne a _ hp' ha, ⟨n, Heap.get?_push_of_some _ hp'⟩, hq⟩
      | tuple ys =>
        obtain ⟨a, us, e, ha, hp, hq⟩ := r
        obtain ⟨o, ho, hr⟩ := id hp
        exact ⟨a, us, e, ne a _ ho ha, ⟨o, Heap.get?_push_of_some _ ho, hr⟩, hq⟩
      | lists yss =>
        obtain ⟨a, us, e, ha, hp, hq⟩ := r
        obtain ⟨n, hp'⟩ := id hp
        refine ⟨a, us, e, ne a _ hp' ha, ⟨n, Heap.get?_push_of_some _ hp'⟩, hq.mono fun u ys z => ?_⟩
        obtain ⟨b, ws, e', hb, hpb, hqb⟩ := z
        obtain ⟨n', hpb'⟩ := id hpb
        exact ⟨b, ws, e', ne b _ hpb' hb, ⟨n', Heap.get?_push_of_some _ hpb'⟩, hqb⟩
      | own a => exact r
    have X₃ : St c s₀ env ns ((s₁.heap.objs.size, xs) :: own) vals { s₁ with heap := s₁.heap.push { cls := .type "list", data := .seq vs.toArray } } := by
      refine ⟨X₂.gl, X₂.keeps, ⟨X₂.view.fn, X₂.view.gl, X₂.view.bu, ?_, fun j y d a b q => ?_, fun b hb => ?_⟩, X₂.fresh, X₂.cells, X₂.apart, X₂.nd, fun p hp => ?_, ?_⟩
      · obtain ⟨m, hm0, hm⟩ := X₁.view.loc
        refine ⟨m, hm0.keeps (keeps_kh k₁), fun j y d a b q => ?_⟩
        obtain ⟨u, hu, hr⟩ := hm j y d a b q
        exact ⟨u, hu, av hr⟩
      · obtain ⟨cc, u, h1, h2, h3⟩ := X₁.view.cel j y d a b q
        exact ⟨cc, u, h1, h2.keeps (keeps_kh k₁), av h3⟩
      · rcases List.mem_cons.mp hb with z | z
        · rw [z]; exact ⟨_, Heap.get?_push_size _ rfl⟩
        · exact X₂.view.live b z
      · rcases List.mem_cons.mp hp with z | z
        · subst z
          exact ⟨⟨vs.toArray, ⟨_, Heap.get?_push_size _ rfl⟩, by simpa using paired_sc q.1⟩, below _ (keeps_kh X₁.keeps)⟩
        · exact X₂.owned p z
      · exact List.nodup_cons.mpr ⟨hf, X₂.ownd⟩
    refine wpAny_mono (st_store i X₃ hi (.inl hk) (d := .own s₁.heap.objs.size) rfl) (fun _ s' z => ?_) fun _ _ x => x
    have k : Keeps s { s₁ with heap := s₁.heap.push { cls := .type "list", data := .seq vs.toArray } } := keeps_trans q.2 k₁
    have nw : OwnNew (own.map (·.1)) s (((s₁.heap.objs.size, xs) :: own).map (·.1)) := fun a ha => by
      rcases List.mem_cons.mp ha with z | z
      · exact .inr (z ▸ below _ (keeps_kh q.2))
      · exact .inl z
    exact ⟨(Pres.of_keeps k).trans nw z.2, _, hn _ hf, rfl, z.1, nw⟩
end
end Mine

/- Fw10 -/
namespace Mine
section
variable {c : Cx} {A : Around} {s₀ : Shared} {env : Env} {ns : List Str} {own : List (Addr × List Sc)} {vals : List (Option D)} {Φ : Out → Prop}

theorem St.setOwn {s : Shared} {h' : Heap} {tk : Nat} {pre post : List (Addr × List Sc)} {a : Addr} {xs xs' : List Sc} {vs' : Array Value} (X : St c s₀ env ns (pre ++ (a, xs) :: post) vals s)
    (hs : Heap.SameBut a s.heap h') (hp : h'.PlainList a vs') (hq : Paired ScR vs'.toList xs') :
    St c s₀ env ns (pre ++ (a, xs') :: post) vals { s with heap := h', toks := tk } ∧ Pres ((pre ++ (a, xs) :: post).map (·.1)) s { s with heap := h', toks := tk } := by
  have hmap : (pre ++ (a, xs') :: post).map (·.1) = (pre ++ (a, xs) :: post).map (·.1) := by simp
  have ha : a ∈ (pre ++ (a, xs) :: post).map (·.1) := by simp
  obtain ⟨⟨vs, hpl, _⟩, hnew⟩ := X.owned (a, xs) (by simp)
  obtain ⟨m, hn, hm⟩ := X.view.loc
  have nL : env.locals ≠ a := fun q => (notNs_list hpl).ne hn q.symm
  have sk : SeqKeep ((pre ++ (a, xs) :: post).map (·.1)) s.heap h' := fun b o hb e _ => (hs.2 b fun q => hb (q ▸ ha)).trans e
  have cl : ∀ cc u, s.heap.IsCell cc u → h'.IsCell cc u := fun cc u hc => hc.sameBut hs fun q => (notNs_list hpl).neCell hc q.symm
  obtain ⟨h₀', t₀', es, _⟩ := X.keeps
  refine ⟨⟨X.gl, ⟨h', tk, by rw [es], fun b o e => (hs.2 b fun q => by rw [q, hnew] at e; cases e).trans (keeps_kh X.keeps b o e)⟩, ⟨X.view.fn, X.view.gl, X.view.bu, ⟨m, hn.sameBut hs nL, fun j y d e1 e2 q => ?_⟩, fun j y d e1 e2 q => ?_, fun b hb => ?_⟩, X.fresh, fun y cc e => ?_, X.apart, X.nd, fun p hp' => ?_, hmap ▸ X.ownd⟩, ⟨fun b o e h1 h2 hb => (hs.2 b fun q => hb (q ▸ ha)).trans e, fun b o e => ?_⟩⟩
  · obtain ⟨u, hu, hr⟩ := hm j y d e1 e2 q
    rw [hmap]
    exact ⟨u, hu, hr.mono sk⟩
  · obtain ⟨cc, u, h1, h2, h3⟩ := X.view.cel j y d e1 e2 q
    rw [hmap]
    exact ⟨cc, u, h1, cl _ _ h2, h3.mono sk⟩
  · by_cases q : b = a
    · obtain ⟨n, e⟩ := hp; exact ⟨_, q ▸ e⟩
    · rw [hmap] at hb
      obtain ⟨o, e⟩ := X.view.live b hb
      exact ⟨o, (hs.2 b q).trans e⟩
  · obtain ⟨⟨u, hu⟩, l⟩ := X.cells y cc e
    exact ⟨⟨u, cl _ _ hu⟩, l⟩
  · have nd := X.ownd
    rw [List.map_append, List.map_cons] at nd
    have hmem : p = (a, xs') ∨ (p ∈ pre ++ (a, xs) :: post ∧ p.1 ≠ a) := by
      rcases List.mem_append.mp hp' with z | z
      · refine .inr ⟨List.mem_append_left _ z, fun q => ?_⟩
        have := (List.nodup_append.mp nd).2.2 p.1 (List.mem_map_of_mem z) a (by simp)
        exact this q
      · rcases List.mem_cons.mp z with z | z
        · exact .inl z
        · refine .inr ⟨List.mem_append_right _ (.tail _ z), fun q => ?_⟩
          have := (List.nodup_cons.mp (List.nodup_append.mp nd).2.1).1
          exact this (by rw [← q]; exact List.mem_map_of_mem (f := (·.1)) z)
    rcases hmem with rfl | ⟨z, hne⟩
    · exact ⟨⟨vs', hp, hq⟩, hnew⟩
    · obtain ⟨⟨us, ⟨n, e⟩, q⟩, nn⟩ := X.owned p z
      exact ⟨⟨us, ⟨n, (hs.2 p.1 hne).trans e⟩, q⟩, nn⟩
  · by_cases q : b = a
    · obtain ⟨n, e⟩ := hp; exact ⟨_, q ▸ e⟩
    · exact ⟨o, (hs.2 b q).trans e⟩

/-- x.append(e) on an owned list -/
theorem ex_append {o e : Expr} {apos pos spos : Pos} {pre post : List (Addr × List Sc)} {a : Addr} {xs : List Sc} {d : Sc}
    (ho : Ev c A env ns vals ((pre ++ (a, xs) :: post).map (·.1)) o (.own a)) (he : Ev c A env ns vals ((pre ++ (a, xs) :: post).map (·.1)) e (.sc d)) (hz : xs.length ≤ 1000)
    (hn : Φ (.next (pre ++ (a, xs ++ [d]) :: post) vals))
    (hbase : attributeBase o "append" env (eval o env) = eval o env) (hs : starEach [e] env = (false, eval e env) :: starEach [] env)
    (hfew : ((backTo pos (starEach [e] env)).all (fun x => !x.1) && (backToKw pos (keywordEach [] env)).all (fun x => x.1.isSome)
      && decide ([e].length + ([] : List Keyword).length + (if ([] : List Keyword).isEmpty then 0 else 1) < 30)) = true)
    (hline : (apos.endLine == pos.line) = true) (hi : interactive env = false) (hsw : swapsWith (.Call (.Attribute o "append" apos) [e] [] pos) none spos.line env = pure false) :
    Ex c A env ns (.Expr (.Call (.Attribute o "append" apos) [e] [] pos) spos) (pre ++ (a, xs) :: post) vals Φ := by
  intro s₀ s X
  refine wpAny_Expr_any (wpAny_Call_method hbase hfew hline PySem.F.plainAttrs_list PySem.F.slot_list_append PySem.F.type_list_append (wpAny_mono (ho s X.g X.view) (fun v s₁ q => ?_) fun _ _ x => x)) hi hsw
  obtain ⟨q, k⟩ := q
  have q' : v = .ref a := q
  subst q'
  have X₁ := X.kept k
  obtain ⟨⟨vs, hpl, hq⟩, _⟩ := X₁.owned (a, xs) (by simp)
  obtain ⟨n, e0⟩ := id hpl
  refine ⟨(plain_list hpl).typeIs, fun a' e' => by cases e'; exact ⟨_, e0, rfl⟩, callWith_method1 (wpAny_mono (evs_cons he evs_nil hs pos s₁ X₁.g X₁.view) (fun us s₂ r => ?_) fun _ _ x => x) hs (by rfl)⟩
  obtain ⟨r, k'⟩ := r
  obtain ⟨u, rfl, hu⟩ := paired1 r
  have X₂ := X₁.kept k'
  obtain ⟨⟨vs, hpl, hq⟩, _⟩ := X₂.owned (a, xs) (by simp)
  refine wpAny_list_append_plain hpl (fun h' hp' hsb => ?_) (by rw [paired_size hq, sizeLine_eq]; exact Nat.le_trans hz (by decide))
  have z := St.setOwn (tk := s₂.toks) X₂ hsb hp' (xs' := xs ++ [d]) (by rw [Array.toList_push]; exact Paired.snoc hq hu)
  refine ⟨(Pres.of_keeps (keeps_trans k k')).trans (.refl _ _) z.2, _, hn, rfl, z.1, fun b hb => .inl ?_⟩
  simpa using hb

theorem erase_paired : ∀ {vs : List Value} {xs : List Sc} (j : Nat), Paired ScR vs xs → Paired ScR (vs.eraseIdx j) (xs.eraseIdx j)
  | _, _, _, .nil => by simp; exact .nil
  | _, _, 0, .cons h r => r
  | _, _, j + 1, .cons h r => .cons h (erase_paired j r)

/-- x.append(y.pop(k)) on two owned lists -/
theorem ex_appendPop {o o' e : Expr} {apos pos spos apos' pos' : Pos} {a b : Addr} {xs zs : List Sc} {k : Int} {d : Sc}
    (ho : Ev c A env ns vals [a, b] o (.own a)) (ho' : Ev c A env ns vals [a, b] o' (.own b)) (he : Ev c A env ns vals [a, b] e (.sc (.int k)))
    (h0 : 0 ≤ k) (hd : zs[k.toNat]? = some d) (hz : xs.length ≤ 1000) (hz' : zs.length ≤ 1000)
    (hn : Φ (.next [(a, xs ++ [d]), (b, zs.eraseIdx k.toNat)] vals))
    (hbase : attributeBase o "append" env (eval o env) = eval o env)
    (hs : starEach [.Call (.Attribute o' "pop" apos') [e] [] pos'] env = (false, eval (.Call (.Attribute o' "pop" apos') [e] [] pos') env) :: starEach [] env)
    (hfew : ((backTo pos (starEach [.Call (.Attribute o' "pop" apos') [e] [] pos'] env)).all (fun x => !x.1) && (backToKw pos (keywordEach [] env)).all (fun x => x.1.isSome)
      && decide ([Expr.Call (.Attribute o' "pop" apos') [e] [] pos'].length + ([] : List Keyword).length + (if ([] : List Keyword).isEmpty then 0 else 1) < 30)) = true)
    (hline : (apos.endLine == pos.line) = true)
    (hbase' : attributeBase o' "pop" env (eval o' env) = eval o' env) (hs' : starEach [e] env = (false, eval e env) :: starEach [] env)
    (hfew' : ((backTo pos' (starEach [e] env)).all (fun x => !x.1) && (backToKw pos' (keywordEach [] env)).all (fun x => x.1.isSome)
      && decide ([e].length + ([] : List Keyword).length + (if ([] : List Keyword).isEmpty then 0 else 1) < 30)) = true)
    (hline' : (apos'.endLine == pos'.line) = true)
    (hi : interactive env = false) (hsw : swapsWith (.Call (.Attribute o "append" apos) [.Call (.Attribute o' "pop" apos') [e] [] pos'] [] pos) none spos.line env = pure false) :
    Ex c A env ns (.Expr (.Call (.Attribute o "append" apos) [.Call (.Attribute o' "pop" apos') [e] [] pos'] [] pos) spos) [(a, xs), (b, zs)] vals Φ := by
  intro s₀ s X
  refine wpAny_Expr_any (wpAny_Call_method hbase hfew hline PySem.F.plainAttrs_list PySem.F.slot_list_append PySem.F.type_list_append (wpAny_mono (ho s X.g X.view) (fun v s₁ q => ?_) fun _ _ x => x)) hi hsw
  obtain ⟨q, k₁⟩ := q
  have q' : v = .ref a := q
  subst q'
  have X₁ := X.kept k₁
  obtain ⟨⟨vs, hpl, hq⟩, _⟩ := X₁.owned (a, xs) (by simp)
  obtain ⟨n, e0⟩ := id hpl
  refine ⟨(plain_list hpl).typeIs, fun a' e' => by cases e'; exact ⟨_, e0, rfl⟩, callWith_method1 (args_cons ?_ hs) hs (by rfl)⟩
  refine wpAny_Call_method hbase' hfew' hline' PySem.F.plainAttrs_list PySem.F.slot_list_pop PySem.F.type_list_pop (wpAny_mono (ho' s₁ X₁.g X₁.view) (fun v s₂ q => ?_) fun _ _ x => x)
  obtain ⟨q, k₂⟩ := q
  have q' : v = .ref b := q
  subst q'
  have X₂ := X₁.kept k₂
  obtain ⟨⟨ws, hplb, hqb⟩, _⟩ := X₂.owned (b, zs) (by simp)
  obtain ⟨nb, eb⟩ := id hplb
  refine ⟨(plain_list hplb).typeIs, fun a' e' => by cases e'; exact ⟨_, eb, rfl⟩, callWith_method1 (wpAny_mono (evs_cons he evs_nil hs' pos' s₂ X₂.g X₂.view) (fun us s₃ r => ?_) fun _ _ x => x) hs' (by rfl)⟩
  obtain ⟨r, k₃⟩ := r
  obtain ⟨u, rfl, hu⟩ := paired1 r
  have hu' : ScR u (.int k) := hu
  obtain ⟨t, rfl⟩ : ∃ t, u = .int k t := by cases hu'; exact ⟨_, rfl⟩
  have X₃ := X₂.kept k₃
  obtain ⟨⟨ws, ⟨nb, eb⟩, hqb⟩, _⟩ := X₃.owned (b, zs) (by simp)
  obtain ⟨y, hy, hyd⟩ := paired_get hqb hd
  have hklt : k.toNat < zs.length := by
    rcases Nat.lt_or_ge k.toNat zs.length with h | h
    · exact h
    · rw [List.getElem?_eq_none h] at hd; cases hd
  have hsz : ws.size = zs.length := paired_size hqb
  have hab : a ≠ b := by
    have := X.ownd
    simp at this
    exact this
  refine call_meets PySem.F.slot_list_pop ⟨_, eb, rfl⟩ PySem.F.entry_list_pop (PySem.F.args_list_pop_2 _ _)
    (PySem.MeetsSeq.list_pop_at b ws nb k t k.toNat y ?_ ?_ (arr_get hy) (by rw [hsz, sizeLine_eq]; omega)) ⟨eb, ?_⟩
  · simp only [Builtin.List.listFitsIndex, Bool.and_eq_true, decide_eq_true_eq]; omega
  · have h1 : ¬ k < 0 := by omega
    have h2 : k < (ws.size : Int) := by rw [hsz]; omega
    simp [seqIndex?, h1, h0, h2]
  · have up := PySem.IsL.update (h := s₃.heap) (l := b) (items := ws) (n := nb) eb (fun xs => xs.eraseIdxIfInBounds k.toNat)
    have hpl' : (s₃.heap.update b (Obj.mapSeq fun xs => xs.eraseIdxIfInBounds k.toNat)).PlainList b (ws.eraseIdxIfInBounds k.toNat) := ⟨_, up⟩
    have hq' : Paired ScR (ws.eraseIdxIfInBounds k.toNat).toList (zs.eraseIdx k.toNat) := by
      unfold Array.eraseIdxIfInBounds
      rw [dif_pos (by rw [hsz]; exact hklt), Array.toList_eraseIdx]
      exact erase_paired _ hqb
    have z₃ := St.setOwn (tk := s₃.toks) (pre := [(a, xs)]) (post := []) X₃ (Heap.SameBut.update ..) hpl' hq'
    refine args_nil ?_
    have X₄ := z₃.1
    obtain ⟨⟨us, hpa, hqa⟩, _⟩ := X₄.owned (a, xs) (by simp)
    refine wpAny_list_append_plain hpa (fun h' hp' hsb => ?_) (by rw [paired_size hqa, sizeLine_eq]; exact Nat.le_trans hz (by decide))
    have z₄ := St.setOwn (tk := s₃.toks) (pre := []) (post := [(b, zs.eraseIdx k.toNat)]) X₄ hsb hp' (xs' := xs ++ [d]) (by rw [Array.toList_push]; exact Paired.snoc hqa hyd)
    refine ⟨?_, _, hn, rfl, z₄.1, fun p hp => .inl ?_⟩
    · have := (Pres.of_keeps (own := [a, b]) (keeps_trans k₁ (keeps_trans k₂ k₃))).trans (.refl _ _) (z₃.2.trans (.refl _ _) z₄.2)
      exact this
    · simpa using hp
end
end Mine

/- Fw11 -/
namespace Mine
section
variable {c : Cx} {A : Around} {env : Env} {ns : List Str} {own : List (Addr × List Sc)} {vals : List (Option D)} {Φ : Out → Prop} {bad : List Addr}

theorem bi_divmod {a b : Int} (hb : b ≠ 0) (h1 : 0 ≤ a) (h2 : a < 1000) (h3 : 0 ≤ b) (h4 : b < 1000) : Bi c A bad (.builtin "divmod") [.sc (.int a), .sc (.int b)] (.tuple [.int (a.fdiv b), .int (a.fmod b)]) := by
  intro s vs G L p
  obtain ⟨v, u, rfl, h₁, h₂⟩ := paired2 p
  cases h₁; cases h₂
  refine divmod_int hb ⟨⟨_, _, rfl, L.fresh (Nat.le_refl _), ⟨_, Heap.get?_push_size _ rfl, rfl, _, rfl⟩, .cons (.int _ _) (.cons (.int _ _) .nil)⟩, keeps_push _ _ _⟩ (Or.inl (PyProof.noPylong_small (by omega)))

theorem ex_assign2 (hA : AOk A) {x y : Str} {p₁ p₂ tpos pos : Pos} {k : Nat} {e : Expr} {d₁ d₂ : Sc} (i j : Nat) (h : Ev c A env ns vals (own.map (·.1)) e (.tuple [d₁, d₂])) (hi : ns[i]? = some x) (hk : KindOk env x) (hj : ns[j]? = some y) (hkj : KindOk env y)
    (hn : Φ (.next own ((vals.set i (some (.sc d₁))).set j (some (.sc d₂)))))
    (hs : swapsWithSole [.Tuple [.Name x p₁, .Name y p₂] k tpos] e pos.line env = pure false) (hw : swappedStores [.Tuple [.Name x p₁, .Name y p₂] k tpos] e env = pure none)
    (ha : assignEach [.Name x p₁, .Name y p₂] env = [(false, assign (.Name x p₁) env), (false, assign (.Name y p₂) env)]) :
    Ex c A env ns (.Assign [.Tuple [.Name x p₁, .Name y p₂] k tpos] e pos) own vals Φ := by
  intro s₀ s X
  refine Assign_Tuple (wpAny_mono (h s X.g X.view) (fun v s₁ q => ?_) fun _ _ x => x) hs hw
  obtain ⟨⟨t, us, rfl, _, ht, hq⟩, k₁⟩ := q
  refine wpAny_assign_Tuple hA.hh ht (by rw [ha, paired_size hq]; rfl) (by rw [ha]; rfl) fun h' he => ?_
  have k₂ : Keeps s₁ { s₁ with heap := h' } := ⟨h', s₁.toks, rfl, fun b o e => he b o (Nat.ne_of_lt (Heap.lt_size e)) e⟩
  rw [ha]
  obtain ⟨us⟩ := us
  cases hq with | cons h1 r =>
  cases r with | cons h2 r =>
  cases r
  show wpAny _ A (do holding [_] (assign (.Name x p₁) env _); assignInOrder [assign (.Name y p₂) env] [_]) _ _ _
  have X₁ := X.kept (keeps_trans k₁ k₂)
  refine wpAny_bind (wpAny_holding (wpAny_assign_Name (wpAny_mono (st_store i X₁ hi hk (d := .sc d₁) h1) (fun _ s₂ z => ?_) fun _ _ x => x)))
  show wpAny _ A (do holding [] (assign (.Name y p₂) env _); pure ()) _ _ _
  refine wpAny_bind (wpAny_holding (wpAny_assign_Name (wpAny_mono (st_store j z.1 hj hkj (d := .sc d₂) h2) (fun _ s₃ z' => ?_) fun _ _ x => x)))
  exact wpAny_pure ⟨(Pres.of_keeps (keeps_trans k₁ k₂)).trans (.refl _ _) (z.2.trans (.refl _ _) z'.2), _, hn, rfl, z'.1, .refl _ _⟩

/-! new lists -/
def EvNew (c : Cx) (A : Around) (env : Env) (ns : List Str) (vals : List (Option D)) (bad : List Addr) (e : Expr) (xs : List Sc) : Prop :=
  ∀ s, Gl c s.heap → View env ns vals bad s.heap →
    wpAny (model c.prog c.w) A (eval e env) (fun v s' => (∃ a vs, v = .ref a ∧ s.heap.get? a = none ∧ s'.heap.PlainList a vs ∧ Paired ScR vs.toList xs) ∧ Keeps s s') (fun _ _ => False) s
def BiNew (c : Cx) (A : Around) (bad : List Addr) (f : Value) (ds : List D) (xs : List Sc) : Prop :=
  ∀ s vs, Gl c s.heap → Live bad s.heap → Paired (Rep bad s.heap) vs ds →
    wpAny (model c.prog c.w) A (call f vs) (fun v s' => (∃ a vs, v = .ref a ∧ s.heap.get? a = none ∧ s'.heap.PlainList a vs ∧ Paired ScR vs.toList xs) ∧ Keeps s s') (fun _ _ => False) s
theorem BiNew.bi {f : Value} {ds : List D} {xs : List Sc} (h : BiNew c A bad f ds xs) : Bi c A bad f ds (.list xs) := by
  intro s vs G L p
  refine wpAny_mono (h s vs G L p) (fun v s' q => ?_) fun _ _ x => x
  obtain ⟨⟨a, us, rfl, h1, h2, h3⟩, k⟩ := q
  exact ⟨⟨a, us, rfl, L.new h1, h2, h3⟩, k⟩
theorem evNew_call_def {x : Str} {p pos : Pos} {e : Expr} {es : List Expr} {f : Addr} {o : Obj} {fd : FuncData} {ds : List D} {xs : List Sc}
    (hx : env.kindOf x = some .globalImplicit) (hg : c.mg x = some (.ref f)) (hb : (x == ("__debug__" : Str)) = false)
    (ho : c.K.lookup f = some o) (hd : o.data = .func fd)
    (hes : Evs c A env ns vals bad (e :: es) ds) (hf : BiNew c A bad (.ref f) ds xs)
    (he : starEach (e :: es) env = (false, eval e env) :: starEach es env)
    (hc : eval (.Call (.Name x p) (e :: es) [] pos) env = (do callWith pos (← eval (.Name x p) env) [] (backTo pos (starEach (e :: es) env)) (backToKw pos (keywordEach [] env)))) :
    EvNew c A env ns vals bad (.Call (.Name x p) (e :: es) [] pos) xs := by
  intro s G V
  refine Call_ (Calls.Name_function_global V.fn hx (Calls.loadGlobal_global (mg := c.mg) (V.gl ▸ G.g) hg ?_) hb) hc
  refine callWith_def hd (wpAny_mono (hes pos s G V) (fun vs s₁ q => ?_) fun _ _ x => x) he
  have k := keeps_kh q.2
  refine ⟨(G.keeps k).k f o ho, wpAny_mono (hf s₁ vs (G.keeps k) (V.live.keeps k) q.1) (fun v s₂ r => ?_) fun _ _ x => x⟩
  obtain ⟨⟨a, us, rfl, h1, h2, h3⟩, k'⟩ := r
  refine ⟨⟨a, us, rfl, ?_, h2, h3⟩, keeps_trans q.2 k'⟩
  cases e : s.heap.get? a with
  | none => rfl
  | some o => rw [k _ _ e] at h1; cases h1

/-- the loop of a comprehension that makes lists -/
theorem compLists {elt iter : Expr} {x : Str} {px : Pos} {scope : Scope} {pos : Pos} {I D : Addr} {fp wr : List Addr} {P : Nat → Value → Prop} {W : Nat → Heap → Prop} {cenv : Env} {m : Str → Option Value} {s : Shared} {R : Result → Shared → Prop}
    {n : Nat} (K : Walks c.prog c.w A I fp wr n P W) (f : Sc → List Sc) (hlive : ∀ i h, W i h → ∀ b ∈ wr, ∃ o, h.get? b = some o)
    (hx : cenv.kindOf x = some .local) (hp : (cenv.scope.kind == .class || (cenv.scope.kind == .module && cenv.locals != cenv.globals)) = false)
    (hDC : D ≠ cenv.locals) (hDf : D ∉ fp) (hCf : cenv.locals ∉ fp) (hst : W 0 s.heap) (hacc : s.heap.PlainList D #[]) (hn : s.heap.Ns cenv.locals m)
    (helt : ∀ i v s₂ m₂, P i v → s₂.heap.Ns cenv.locals m₂ → m₂ x = some v → (∀ b o, b ≠ cenv.locals → b ∉ wr → b ≠ D → s.heap.get? b = some o → s₂.heap.get? b = some o) →
      wpAny (model c.prog c.w) A (eval elt cenv) (fun y s₃ => (∃ T its, y = .ref T ∧ s₂.heap.get? T = none ∧ s₃.heap.PlainList T its ∧ Paired ScR its.toList (f (scOf v))) ∧ Keeps s₂ s₃) (fun _ _ => False) s₂)
    (hR : ∀ h' tk m' ys (vs : List Value), h'.Ns cenv.locals m' → h'.PlainList D ys → vs.length = n → (∀ j v, vs[j]? = some v → P j v) →
      Paired (fun v y => ∃ T its, y = .ref T ∧ s.heap.get? T = none ∧ T ≠ cenv.locals ∧ h'.PlainList T its ∧ Paired ScR its.toList (f (scOf v))) vs ys.toList →
      (∀ b o, b ≠ cenv.locals → b ∉ wr → b ≠ D → s.heap.get? b = some o → h'.get? b = some o) → R (.ok .next) { s with heap := h', toks := tk }) (hz : n ≤ 1000) :
    codeAny (model c.prog c.w) A (.compLoop (.ListComp elt [⟨.Name x px, iter, [], 0⟩] scope pos) 0 (.ref I) (.ref D) cenv) R s := by
  have hCw : cenv.locals ∉ wr := fun h => hCf (K.sub _ h)
  have hDw : D ∉ wr := fun h => hDf (K.sub _ h)
  refine codeAny_compLoop_tests
    (fun k s' => ∃ h' tk m' ys, ∃ vs : List Value, s' = { s with heap := h', toks := tk } ∧ W vs.length h' ∧ h'.PlainList D ys ∧ h'.Ns cenv.locals m' ∧ (∀ j v, vs[j]? = some v → P j v) ∧
      Paired (fun v y => ∃ T its, y = .ref T ∧ s.heap.get? T = none ∧ T ≠ cenv.locals ∧ T ∉ wr ∧ T ≠ D ∧ h'.PlainList T its ∧ Paired ScR its.toList (f (scOf v))) vs ys.toList ∧ vs.length ≤ n ∧ k = n + 1 - vs.length ∧
      (∀ b o, b ≠ cenv.locals → b ∉ wr → b ≠ D → s.heap.get? b = some o → h'.get? b = some o)) ?_ (n + 1)
    ⟨s.heap, s.toks, m, #[], [], rfl, hst, hacc, hn, by simp, by simpa using Paired.nil, Nat.zero_le _, rfl, fun _ _ _ _ _ e => e⟩
  rintro k s' ⟨H, tk, m', ys, vs, rfl, hst', hacc', hn', hP, hF, hi, rfl, hk⟩
  by_cases hlt : vs.length < n
  · refine K.item vs.length _ _ _ hlt hst' fun v h₁ tk₁ hPv hst₁ hk₁ => ?_
    refine wpAny_assign_Name (wpAny_storeName_local hx (hn'.at' fun o e => hk₁ _ o hCw e) (fun h₂ hn₂ hs₂ => ?_) hp)
    have up₂ : ∀ b o, b ≠ cenv.locals → b ∉ wr → H.get? b = some o → h₂.get? b = some o := fun b o hbC hbf e => hs₂.extBut b o hbC (hk₁ b o hbf e)
    have hst₂ : W (vs.length + 1) h₂ := K.frame _ _ _ hst₁ fun b hb o e => hs₂.extBut b o (fun h => hCf (h ▸ hb)) e
    have hacc₂ : h₂.PlainList D ys := hacc'.at fun o e => up₂ D o hDC hDw e
    refine wpAny_tests_nil ?_
    rw [if_pos rfl]
    refine wpAny_mono (helt vs.length v _ _ hPv hn₂ (by simp) (fun b o hbC hbf hbD e => up₂ b o hbC hbf (hk b o hbC hbf hbD e))) (fun y s₄ h₄ => ?_) fun _ _ e => e.elim
    obtain ⟨⟨T, its, rfl, hTnew, hT, hG⟩, h₄, tk₄, rfl, hk₄⟩ := h₄
    have ne : ∀ (b : Addr) (o : Obj), h₂.get? b = some o → T ≠ b := fun b o e q => by
      have z : h₂.get? T = none := hTnew
      rw [q, e] at z; cases z
    have hTC : T ≠ cenv.locals := by obtain ⟨_, _, _, ho, _⟩ := hn₂; exact ne _ _ ho
    have hTD : T ≠ D := by obtain ⟨_, ho⟩ := hacc₂; exact ne _ _ ho
    have hTw : T ∉ wr := fun hm => by obtain ⟨o, ho⟩ := hlive _ _ hst₂ T hm; exact ne _ _ ho rfl
    have hTs : s.heap.get? T = none := by
      cases e : s.heap.get? T with
      | none => rfl
      | some o => exact absurd rfl (ne _ _ (up₂ T o hTC hTw (hk T o hTC hTw hTD e)))
    have hlen := hF.length
    have e4 : ys.toList.length = ys.size := by simp
    have hys : ys.size ≤ sizeLine := by rw [sizeLine_eq]; omega
    refine wpAny_list_append_plain (hacc₂.at fun o e => hk₄ _ o e) (fun h₅ hl₅ hs₅ => ?_) hys
    have keep₅ : ∀ b o, b ≠ D → h₂.get? b = some o → h₅.get? b = some o := fun b o hb e => hs₅.extBut b o hb (hk₄ b o e)
    refine ⟨n + 1 - (vs.length + 1), by omega, h₅, tk₄, _, ys.push (.ref T), vs ++ [v], rfl, ?_, hl₅, (hn₂.keeps hk₄).sameBut hs₅ (Ne.symm hDC), fun j u hj => ?_, ?_, (by rw [List.length_append, List.length_singleton]; exact hlt), (by rw [List.length_append, List.length_singleton]),
      fun b o hbC hbf hbD e => keep₅ b o hbD (up₂ b o hbC hbf (hk b o hbC hbf hbD e))⟩
    · have := K.frame _ _ h₅ hst₂ fun b hb o e => keep₅ b o (fun h => hDf (h ▸ hb)) e
      simpa using this
    · rcases Nat.lt_trichotomy j vs.length with h | h | h
      · exact hP j u (by rwa [List.getElem?_append_left h] at hj)
      · subst h; simp at hj; subst hj; exact hPv
      · have hnone : (vs ++ [v])[j]? = none := List.getElem?_eq_none (by rw [List.length_append, List.length_singleton]; omega)
        rw [hnone] at hj; cases hj
    · have hF₅ := hF.mono (F' := fun v y => ∃ T its, y = .ref T ∧ s.heap.get? T = none ∧ T ≠ cenv.locals ∧ T ∉ wr ∧ T ≠ D ∧ h₅.PlainList T its ∧ Paired ScR its.toList (f (scOf v))) fun v y z => by
        obtain ⟨T', its', e', a1, a2, a3, a4, ⟨nn, a5⟩, a6⟩ := z
        exact ⟨T', its', e', a1, a2, a3, a4, ⟨nn, keep₅ T' _ a4 (up₂ T' _ a2 a3 a5)⟩, a6⟩
      rw [Array.toList_push]
      obtain ⟨nn, hT'⟩ := hT
      exact Paired.snoc hF₅ ⟨T, its, rfl, hTs, hTC, hTw, hTD, ⟨nn, hs₅.extBut T _ hTD hT'⟩, hG⟩
  · have hin : vs.length = n := by omega
    refine K.done _ _ _ (hin ▸ hst') fun h₁ tk₁ hk₁ => ?_
    refine hR h₁ tk₁ m' ys vs (hn'.at' fun o e => hk₁ _ o hCw e) (hacc'.at fun o e => hk₁ _ o hDw e) hin hP (hF.mono fun v y z => ?_) fun b o hbC hbf hbD e => hk₁ b o hbf (hk b o hbC hbf hbD e)
    obtain ⟨T', its', e', a1, a2, a3, a4, ⟨nn, a5⟩, a6⟩ := z
    exact ⟨T', its', e', a1, a2, ⟨nn, hk₁ _ _ a3 a5⟩, a6⟩
end
end Mine

/- Fw12 -/
namespace Mine
section
variable {c : Cx} {A : Around} {env : Env} {ns : List Str} {own : List (Addr × List Sc)} {vals : List (Option D)} {Φ : Out → Prop} {bad : List Addr}

theorem paired_lists {h : Heap} {bad : List Addr} {xs : List Sc} {f : Sc → List Sc} : ∀ {vs ys : List Value}, Paired ScR vs xs → Paired (fun v y => ListR bad h y (f (scOf v))) vs ys → Paired (ListR bad h) ys (xs.map f) := by
  intro vs ys p
  induction p generalizing ys with
  | nil => intro q; cases q; exact .nil
  | cons h r ih =>
    intro q
    cases q with
    | cons hy q' =>
      rw [scOf_of h] at hy
      exact .cons hy (ih q')

theorem ex_assignLists {elt iter : Expr} {x y : Str} {px py spos : Pos} {scope : Scope} {cl : List (Str × Addr)} {pos : Pos} {xs : List Sc} {ns' : List Str} {vals' : List (Option D)}
    (i : Nat) (f : Sc → List Sc) (hi : ns[i]? = some y) (hy : env.kindOf y = some .local) (hit : EvIt c A env ns vals (own.map (·.1)) iter xs)
    (hsw : swapsWith (.ListComp elt [⟨.Name x px, iter, [], 0⟩] scope pos) (some (.Name y py)) spos.line env = pure true)
    (hclos : closureFor scope env = pure cl) (hcell : ∀ y ∈ scope.names, y.2 ≠ .cell) (hkind : scope.kind = .function)
    (hnames : ∀ y ∈ scope.names, y.2 = .local → scope.names.lookup y.1 = some .local) (hx : scope.names.lookup x = some .local) (hcap : Cap env scope cl ns vals ns' vals')
    (helt : ∀ C d, d ∈ xs → EvNew c A (compEnvC scope cl C env) (x :: ns') (some (.sc d) :: vals') (own.map (·.1)) elt (f d))
    (hz : xs.length ≤ 1000) (hs : ∀ x, foldedSetIterable iter env x = pure x) (hn : Φ (.next own (vals.set i (some (.lists (xs.map f)))))) :
    Ex c A env ns (.Assign [.Name y py] (.ListComp elt [⟨.Name x px, iter, [], 0⟩] scope pos) spos) own vals Φ := by
  intro s₀ s X
  have hp : (env.scope.kind == .class || (env.scope.kind == .module && env.locals != env.globals)) = false := by rw [X.view.fn]; rfl
  rw [exec_Assign_Name_used _ _ _ _ hsw]
  refine wpAny_bind (wpAny_standAt (wpAny_bind ?_))
  show wpAny _ A (do let _ ← comprehension (.ListComp elt [⟨.Name x px, iter, [], 0⟩] scope pos) scope env _ (newList []) false (eval iter env) (some (assign (.Name y py) env))) _ _ s
  refine wpAny_bind (wpAny_mono (wpAny_comprehension_free (use := some (assign (.Name y py) env)) (Q := fun _ s' => Pres (own.map (·.1)) s s' ∧ ∃ o, Φ o ∧ OutR c s₀ env ns (own.map (·.1)) s o .next s') rfl hs hclos hkind hnames
    (wpAny_mono (hit s X.g X.view) (fun xv s₁ h₁ => wpAny_mono h₁ (fun it s₂ r => ?_) fun _ _ e => e) fun _ _ e => e)) (fun _ s' hq => wpAny_pure (wpAny_pure hq)) fun _ _ e => e)
  obtain ⟨I, fp, wr, P, W, hI⟩ := r
  have hit' := hI.it
  subst hit'
  obtain ⟨m, hm0, hm⟩ := X.view.loc
  have kk := keeps_kh hI.keeps
  refine wpAny_newObj_type (wpAny_newFunctionEnv hcell (by intro y hy; simp at hy) (fun h₁ hns₁ hsb₁ => ?_) hkind)
  dsimp only at hns₁ hsb₁ ⊢
  generalize hH2 : s₂.heap.push { cls := .type "list", dict := none, data := .seq ([] : List Value).toArray } = H2 at hns₁ hsb₁ ⊢
  have hC : H2.objs.size = s₂.heap.objs.size + 1 := by rw [← hH2, Heap.size_push]
  have hDC : s₂.heap.objs.size ≠ H2.objs.size := by rw [hC]; exact Nat.ne_of_lt (Nat.lt_succ_self _)
  have below : ∀ b, b < s₂.heap.objs.size → b ≠ H2.objs.size ∧ b ≠ s₂.heap.objs.size := fun b hb => ⟨by rw [hC]; exact Nat.ne_of_lt (Nat.lt_succ_of_lt hb), Nat.ne_of_lt hb⟩
  have hfp : ∀ b ∈ fp, b < s₂.heap.objs.size := fun b hb => by obtain ⟨⟨o, e, _⟩, _⟩ := hI.fp b hb; exact Heap.lt_size e
  have hDf : s₂.heap.objs.size ∉ fp := fun hm => Nat.lt_irrefl _ (hfp _ hm)
  have hCf : H2.objs.size ∉ fp := fun hm => (below _ (hfp _ hm)).1 rfl
  have old : ∀ b o, s₂.heap.get? b = some o → h₁.get? b = some o := fun b o e => hsb₁.extBut b o (below b (Heap.lt_size e)).1 (Heap.get?_push_of_some _ (hH2 ▸ Heap.get?_push_of_some _ e))
  have hacc : h₁.PlainList s₂.heap.objs.size #[] := ⟨_, hsb₁.extBut _ _ hDC (Heap.get?_push_of_some _ (hH2 ▸ Heap.get?_push_size _ rfl))⟩
  have hst₁ : W 0 h₁ := hI.walks.frame _ _ _ hI.st fun b _ o e => old b o e
  have fresh : ∀ a, s₂.heap.objs.size ≤ a → s.heap.get? a = none := fun a ha => by
    cases e : s.heap.get? a with
    | none => rfl
    | some o' => exact absurd (Heap.lt_size (kk _ _ e)) (Nat.not_lt.mpr ha)
  have older : ∀ T, h₁.get? T = none → s.heap.get? T = none := fun T hT => by
    cases e : s.heap.get? T with
    | none => rfl
    | some o' => rw [old T o' (kk _ _ e)] at hT; cases hT
  obtain ⟨h₂, t₂, es₂, _⟩ := hI.keeps
  have hwr : ∀ b o, s.heap.get? b = some o → b ∉ wr := fun b o e q => by rw [hI.wr b q] at e; cases e
  have loop : ∀ s₃ : Shared, s₃ = { s₂ with heap := h₁, toks := s₂.toks + ([] : List (Str × Value)).length } →
      codeAny (model c.prog c.w) A (.compLoop (.ListComp elt [⟨.Name x px, iter, [], 0⟩] scope pos) 0 (.ref I) (.ref s₂.heap.objs.size) (compEnvC scope cl H2.objs.size env))
        (compPost (model c.prog c.w) A (fun _ _ => False) (some (assign (.Name y py) env)) (fun _ s' => Pres (own.map (·.1)) s s' ∧ ∃ o, Φ o ∧ OutR c s₀ env ns (own.map (·.1)) s o .next s') (.ref s₂.heap.objs.size) H2.objs.size) s₃ := by
    rintro s₃ rfl
    refine compLists (cenv := compEnvC scope cl H2.objs.size env) hI.walks f (fun j h w b hb => let ⟨o, e, _⟩ := hI.kind j h w b hb; ⟨o, e⟩) (lookup_relabel_local hx) (by simp [compEnvC, relabel, hkind]) hDC hDf hCf hst₁ hacc hns₁ (fun j v s₃ m₃ hv hn₃ hm₃ hk₃ => ?_) (fun h' tk m' ys vs hnC hpl hlen hP hF hk => ?_) hz
    · obtain ⟨d, hd, hr⟩ := hI.data j v hv
      have k : KH s.heap s₃.heap := fun b o e => hk₃ b o (below b (Heap.lt_size (kk _ _ e))).1 (hwr b o e) (below b (Heap.lt_size (kk _ _ e))).2 (old b o (kk _ _ e))
      have := helt H2.objs.size d (List.mem_of_getElem? hd) s₃ (X.g.keeps k) (comp_view X.view k hkind hx hcap hn₃ hm₃ hr)
      rw [scOf_of hr]
      exact this
    · have keep : ∀ b o, s.heap.get? b = some o → h'.get? b = some o := fun b o e => hk b o (below b (Heap.lt_size (kk _ _ e))).1 (hwr b o e) (below b (Heap.lt_size (kk _ _ e))).2 (old b o (kk _ _ e))
      show wpAny _ A (assign (.Name y py) env (.ref s₂.heap.objs.size)) _ _ _
      refine wpAny_assign_Name (wpAny_storeName_local hy (hm0.keeps keep) (fun h₃ hn₃ hs₃ => ?_) hp)
      have hLC : env.locals ≠ H2.objs.size := fun q => by
        obtain ⟨o, _, _, ho, _⟩ := hm0
        exact (below _ (Heap.lt_size (kk _ _ ho))).1 q
      have hLD : s₂.heap.objs.size ≠ env.locals := fun q => by
        obtain ⟨o, _, _, ho, _⟩ := hm0
        exact (below _ (Heap.lt_size (kk _ _ ho))).2 q.symm
      refine ⟨m', hnC.sameBut hs₃ (Ne.symm hLC), fun h₄ hs₄ => ?_⟩
      have kept₄ : ∀ b o, b ≠ env.locals → b ≠ H2.objs.size → h'.get? b = some o → h₄.get? b = some o := fun b o h1 h2 e => hs₄.extBut b o h2 (hs₃.extBut b o h1 e)
      have notL : ∀ (b : Addr) n (its : Array Value), h'.get? b = some { cls := .type "list", data := .seq its n } → b ≠ env.locals := fun b n its e => (notNs_list ⟨n, e⟩).ne (hm0.keeps keep)
      have hrep : Rep (own.map (·.1)) h₄ (.ref s₂.heap.objs.size) (.lists (xs.map f)) := by
        obtain ⟨nD, eD⟩ := hpl
        refine ⟨_, ys, rfl, X.view.live.new (fresh _ (Nat.le_refl _)), ⟨nD, kept₄ _ _ hLD hDC eD⟩, paired_lists (paired_of_at hlen fun j v e => hI.data j v (hP j v e)) (hF.mono fun v y z => ?_)⟩
        obtain ⟨T, its, rfl, h1, h2, ⟨nT, eT⟩, h4⟩ := z
        exact ⟨T, its, rfl, X.view.live.new (older T h1), ⟨nT, kept₄ T _ (notL T nT its eT) h2 eT⟩, h4⟩
      have z := St.setLocal (tk := tk + 1) (h' := h₄) i X hi hy hm (hn₃.sameBut hs₄ hLC) (fun b o hb e => kept₄ b o hb (below b (Heap.lt_size (kk _ _ e))).1 (keep b o e)) hrep
      have e : ({ s₂ with heap := h₄, toks := tk + 1 } : Shared) = { s with heap := h₄, toks := tk + 1 } := by rw [es₂]
      show Pres _ s ({ s₂ with heap := h₄, toks := tk + 1 } : Shared) ∧ ∃ o, Φ o ∧ OutR c s₀ env ns _ s o .next ({ s₂ with heap := h₄, toks := tk + 1 } : Shared)
      rw [e]
      exact ⟨z.2, _, hn, rfl, z.1, .refl _ _⟩
  exact codeAny_compStart_list (loop _ rfl) (hI.walks.self 0 _ _ _ hst₁ (loop _ rfl))

/-! calls of the text's own defs -/
structure FnOk (c : Cx) (a : Addr) (fd : FuncData) (body : List Stmt) : Prop where
  get : ∀ h, c.K.In h → ∃ o, h.get? a = some o ∧ o.data = .func fd
  code : ∀ h, c.K.In h → h.CodeRec fd.code fd.qualname
  body : fd.body = .stmts body
  clo : fd.closure = []
  glob : fd.globals = mainGlobals
  bu : fd.builtins = builtinsNs
  kind : fd.scope.kind = .function
  co : fd.scope.isCoroutine = false
  gen : fd.scope.isGenerator = false

/-- how the arguments come to lie in the frame -/
def Binds (fd : FuncData) (a : Addr) (ns : List Str) (k : Nat) : Prop :=
  ∀ vs : List Value, vs.length = k → ∃ binds, bindArgs fd ⟨vs, []⟩ = pure binds ∧
    (∀ n, ∀ x ∈ binds, fd.scope.names.lookup x.1 = some .local ∨ (fd.scope.names.lookup x.1 = some .cell ∧ ((cellsFrom n fd.scope.names []).lookup x.1).isSome = true)) ∧
    ∀ (i : Nat) (x : Str) (v : Value), ns[i]? = some x → vs[i]? = some v →
      (fd.scope.names.lookup x = some .local → bindL (fun n => fd.scope.names.lookup n) binds (fun _ => none) x = some v) ∧
      (fd.scope.names.lookup x = some .cell → bindC (fun n => fd.scope.names.lookup n) binds (fun _ => none) x = some v ∧ ∀ n, ((cellsFrom n fd.scope.names []).lookup x).isSome = true)

theorem call_enter {a : Addr} {fd : FuncData} {body : List Stmt} {ds : List D} {s : Shared} {vs : List Value} {R : Value → Shared → Prop} (F : FnOk c a fd body) (hA : AOk A) (G : Gl c s.heap)
    (hb : Binds fd a ns ds.length) (hnd : ns.Nodup) (p : Paired (Rep [] s.heap) vs ds) 
    (h : ∀ L s₁, St c s (callEnvC fd L a) ns [] (ds.map some ++ List.replicate (ns.length - ds.length) none) s₁ →
      wpAny (model c.prog c.w) (A.deeper (callEnvC fd L a)) (execs body (callEnvC fd L a)) (fun f s' => ∃ v, f = .ret v ∧ R v s') (fun _ _ => False) s₁) :
    wpAny (model c.prog c.w) A (call (.ref a) vs) R (fun _ _ => False) s := by
  obtain ⟨o, ho, hd⟩ := F.get _ G.k
  obtain ⟨binds, hbind, hkinds, hat⟩ := hb vs p.length
  refine wpAny_call (codeAny_call_cells hA.dp ho hd G.lim (F.code _ G.k) F.body hbind F.clo (hkinds _) (fun s₁ X => ?_) F.co F.gen F.kind)
  have st : St c s (callEnvC fd s.heap.objs.size a) ns [] (ds.map some ++ List.replicate (ns.length - ds.length) none) s₁ := by
    have keeps : Keeps s s₁ := X.done
    have kk := keeps_kh keeps
    have vat : ∀ (i : Nat) (d : D), (ds.map some ++ List.replicate (ns.length - ds.length) none)[i]? = some (some d) → ∃ v, vs[i]? = some v ∧ Rep [] s₁.heap v d := fun i d e => by
      rcases Nat.lt_or_ge i ds.length with hi | hi
      · rw [List.getElem?_append_left (by simpa using hi), List.getElem?_map] at e
        cases q : ds[i]? with
        | none => rw [q] at e; cases e
        | some d' =>
          rw [q] at e
          cases e
          obtain ⟨v, hv, hr⟩ := paired_get p q
          exact ⟨v, hv, hr.mono kk.seq⟩
      · rw [List.getElem?_append_right (by simpa using hi)] at e
        have := List.mem_of_getElem? e
        rw [List.mem_replicate] at this
        cases this.2
    refine ⟨G, keeps, ⟨F.kind, F.glob, F.bu, ⟨_, X.toInCall.ns, fun i x d e1 b q => ?_⟩, fun i x d e1 b q => ?_, fun _ q => nomatch q⟩, Nat.le_refl _, fun x cc e => ⟨⟨_, X.cell x cc e⟩, X.above x cc (mem_of_lookup e)⟩, X.apart, hnd, fun _ q => (nomatch q), .nil⟩
    · obtain ⟨v, hv, hr⟩ := vat i d b
      exact ⟨v, (hat i x v e1 hv).1 q, hr⟩
    · obtain ⟨v, hv, hr⟩ := vat i d b
      obtain ⟨h1, h2⟩ := (hat i x v e1 hv).2 q
      obtain ⟨cc, hc⟩ := Option.isSome_iff_exists.mp (h2 (s.heap.objs.size + 1))
      have := X.cell x cc hc
      have h1' : bindC (callEnvC fd s.heap.objs.size a).kindOf binds (fun _ => none) x = some v := h1
      rw [h1'] at this
      exact ⟨cc, v, hc, this, hr⟩
  refine wpAny_mono (h _ s₁ st) (fun f s' q => ?_) fun _ _ x => x.elim
  obtain ⟨v, rfl, hR⟩ := q
  exact hR

theorem bi_def {a : Addr} {fd : FuncData} {body : List Stmt} {ds : List D} {d : D} (F : FnOk c a fd body) (hA : AOk A) (hb : Binds fd a ns ds.length) (hnd : ns.Nodup)
    (h : ∀ L, Exs c (A.deeper (callEnvC fd L a)) (callEnvC fd L a) ns body [] (ds.map some ++ List.replicate (ns.length - ds.length) none) (fun o => o = .ret d)) :
    Bi c A [] (.ref a) ds d := by
  intro s vs G _ p
  refine call_enter F hA G hb hnd p fun L s₁ X => wpAny_mono (h L s s₁ X) (fun f s' q => ?_) fun _ _ x => x
  obtain ⟨_, o, rfl, v, rfl, hr, k⟩ := q
  exact ⟨v, rfl, hr, k⟩
theorem biNew_def {a : Addr} {fd : FuncData} {body : List Stmt} {ds : List D} {xs : List Sc} (F : FnOk c a fd body) (hA : AOk A) (hb : Binds fd a ns ds.length) (hnd : ns.Nodup)
    (h : ∀ L, Exs c (A.deeper (callEnvC fd L a)) (callEnvC fd L a) ns body [] (ds.map some ++ List.replicate (ns.length - ds.length) none) (fun o => o = .retNew xs)) :
    BiNew c A [] (.ref a) ds xs := by
  intro s vs G _ p
  refine call_enter F hA G hb hnd p fun L s₁ X => wpAny_mono (h L s s₁ X) (fun f s' q => ?_) fun _ _ x => x
  obtain ⟨_, o, rfl, v, us, rfl, h1, h2, h3, k⟩ := q
  exact ⟨.ref v, rfl, ⟨v, us, rfl, h1, h2, h3⟩, k⟩
end
end Mine

/- L1 -/
namespace Mine

/-! the text's defs -/
def defSt (i : Nat) : Stmt := Challenge.pw_pk0007_01.main.body.getD i (.Pass ⟨0, 0, 0, 0⟩)
def bodyOf : Stmt → List Stmt
  | .FunctionDef _ _ b _ _ _ _ _ _ _ => b
  | _ => []
def scopeOf : Stmt → Scope
  | .FunctionDef _ _ _ _ _ _ sc _ _ _ => sc
  | _ => { kind := .function, names := [], isGenerator := false, isCoroutine := false }
def argsOf : Stmt → Arguments
  | .FunctionDef _ a _ _ _ _ _ _ _ _ => a
  | _ => { posonlyargs := [], args := [], vararg := none, kwonlyargs := [], kw_defaults := [], kwarg := none, defaults := [] }
def nameOfDef : Stmt → Str
  | .FunctionDef n _ _ _ _ _ _ _ _ _ => n
  | _ => ""
/-- what the text's top makes of a def -/
def fdOf (i : Nat) (pm cd doc : Value) : FuncData := Calls.docDef (nameOfDef (defSt i)) (argsOf (defSt i)) (bodyOf (defSt i)) (scopeOf (defSt i)) pm cd doc

end Mine

/- L2 -/
namespace Mine

theorem AOk.deeper {A : Around} {env : Env} (h : AOk A) (hd : A.depth + 1 < recursionLimit) (hu : A.units + 67 < cLine) : AOk (A.deeper env) := ⟨h.hh, by show A.units + 3 + 64 < cLine; omega, hd⟩

/-! _law_order -/
def ordGo : List Int → Int → List Int → List Int → List Int
  | [], _, _, order => order
  | s :: ss, number, free, order => ordGo ss (number.fdiv s) (free.eraseIdx (number.fmod s).toNat) (order ++ [free.getD (number.fmod s).toNat 0])
def orderOf (n : Int) : List Int := ordGo [4, 3, 2, 1] n [0, 1, 2, 3] []

def nsOrder : List Str := ["number", "free", "order", "size", "which"]

theorem map_eraseIdx {α β : Type} (f : α → β) : ∀ (l : List α) (i : Nat), (l.map f).eraseIdx i = (l.eraseIdx i).map f
  | [], _ => rfl
  | _ :: _, 0 => rfl
  | x :: l, i + 1 => by simp [map_eraseIdx f l i]

theorem order_turn {c : Cx} {A : Around} {L a : Addr} {pm cd doc : Value} (hA : AOk A) (hg : c.mg "divmod" = none) (hb : c.mb "divmod" = some (.builtin "divmod"))
    {n sz : Int} {fa oa : Addr} {free order : List Int} {v4 : Option D} {Φ : Out → Prop}
    (h1 : 0 ≤ n) (h2 : n < 1000) (h3 : 0 < sz) (h4 : sz < 1000) (hf : (free.length : Int) = sz) (ho : order.length ≤ 10)
    (hn : Φ (.next [(oa, sInts (order ++ [free.getD (n.fmod sz).toNat 0])), (fa, sInts (free.eraseIdx (n.fmod sz).toNat))] [some (.sc (.int (n.fdiv sz))), some (.own fa), some (.own oa), some (.sc (.int sz)), some (.sc (.int (n.fmod sz)))])) :
    Exs c A (callEnvC (fdOf 10 pm cd doc) L a) nsOrder (match (bodyOf (defSt 10)) with | [_, _, .For _ _ b _ _, _] => b | _ => []) [(oa, sInts order), (fa, sInts free)]
      [some (.sc (.int n)), some (.own fa), some (.own oa), some (.sc (.int sz)), v4] Φ := by
  have hm0 : 0 ≤ n.fmod sz := by have := Int.fmod_nonneg_of_pos n h3; exact this
  have hm1 : n.fmod sz < sz := by have := Int.fmod_lt_of_pos n h3; exact this
  refine exs_cons (ex_assign2 hA 0 4 (ev_call_builtin (id := "divmod") rfl hg hb rfl (evs_cons (ev_name 0 rfl rfl (.inl rfl) rfl) (evs_cons (ev_name 3 rfl rfl (.inl rfl) rfl) evs_nil rfl) rfl) (bi_divmod (by omega) h1 h2 (by omega) h4) rfl rfl rfl) rfl (.inl rfl) rfl (.inl rfl) ?_ rfl rfl rfl)
  refine exs_cons (ex_appendPop (ev_name 2 rfl rfl (.inl rfl) rfl) (ev_name 1 rfl rfl (.inl rfl) rfl) (ev_name 4 rfl rfl (.inl rfl) rfl) hm0 (d := .int (free.getD (n.fmod sz).toNat 0)) ?_ (by simp; omega) (by simp; omega) ?_ rfl rfl rfl rfl rfl rfl rfl rfl rfl rfl)
  · have hlt : (n.fmod sz).toNat < free.length := by omega
    simp [hlt]
  · refine exs_nil ?_
    have e1 : sInts order ++ [Sc.int (free.getD (n.fmod sz).toNat 0)] = sInts (order ++ [free.getD (n.fmod sz).toNat 0]) := by simp
    have e2 : (sInts free).eraseIdx (n.fmod sz).toNat = sInts (free.eraseIdx (n.fmod sz).toNat) := map_eraseIdx _ _ _
    rw [e1, e2]
    exact hn

/-- arguments for a def of one, two, three parameters that are locals -/
theorem order_spec {c : Cx} {A : Around} {pm cd doc : Value} (hA : AOk A) (hd : A.depth + 1 < recursionLimit) (hu : A.units + 67 < cLine) (hg : c.mg "divmod" = none) (hb : c.mb "divmod" = some (.builtin "divmod"))
    (F : FnOk c 67 (fdOf 10 pm cd doc) (bodyOf (defSt 10))) {n : Int} (h1 : 0 ≤ n) (h2 : n < 24) : BiNew c A [] (.ref 67) [.sc (.int n)] (sInts (orderOf n)) := by
  refine biNew_def (ns := nsOrder) F hA ?_ (by decide) fun L => ?_
  · intro vs hl
    obtain ⟨v, rfl⟩ : ∃ v, vs = [v] := by
      match vs, hl with
      | [v], _ => exact ⟨v, rfl⟩
    refine ⟨[("number", v)], rfl, fun n x hx => ?_, fun i x u hi hv => ?_⟩
    · rw [List.mem_singleton.mp hx]; exact .inl rfl
    · cases i with
      | zero =>
        simp at hv; subst hv
        simp [nsOrder] at hi; subst hi
        exact ⟨fun _ => rfl, fun q => nomatch q⟩
      | succ i => simp at hv
  · have hA' : AOk (A.deeper (callEnvC (fdOf 10 pm cd doc) L 67)) := hA.deeper hd hu
    refine exs_cons (ex_assignOwn (xs := sInts [0, 1, 2, 3]) 1 (evs_cons ev_int (evs_cons ev_int (evs_cons ev_int (evs_cons ev_int evs_nil rfl) rfl) rfl) rfl) rfl rfl (by decide) (fun fa _ => ?_) rfl)
    refine exs_cons (ex_assignOwn (xs := sInts []) 2 evs_nil rfl rfl (by decide) (fun oa _ => ?_) rfl)
    refine exs_cons (ex_for 3 (it_tuple hA' (ev_tuple (xs := sInts [4, 3, 2, 1]) (evs_cons ev_int (evs_cons ev_int (evs_cons ev_int (evs_cons ev_int evs_nil rfl) rfl) rfl) rfl) (by decide))) rfl (.inl rfl) ?_ (fun _ => rfl) fun _ _ => rfl)
    have f0 : ∀ (k m : Int), 0 ≤ k → 0 < m → 0 ≤ k.fdiv m := fun k m a b => Int.fdiv_nonneg a (by omega)
    have f1 : ∀ (k m : Int), 0 ≤ k → 0 < m → k.fdiv m ≤ k := fun k m a b => by
      have := Int.mul_fdiv_add_fmod k m
      have h1 := Int.fmod_nonneg_of_pos k b
      have h2 := f0 k m a b
      have h3 : k.fdiv m ≤ m * k.fdiv m := by
        have := Int.mul_le_mul_of_nonneg_right (show (1:Int) ≤ m by omega) h2
        omega
      omega
    have g : ∀ (k m : Int) (l : List Int), 0 < m → (l.length : Int) = m → ((l.eraseIdx (k.fmod m).toNat).length : Int) = m - 1 := fun k m l a b => by
      have h1 := Int.fmod_nonneg_of_pos k a
      have h2 := Int.fmod_lt_of_pos k a
      rw [List.length_eraseIdx, if_pos (by omega)]
      omega
    refine order_turn hA' hg hb h1 (by omega) (by decide) (by decide) rfl (by decide) ?_
    have a1 := f0 n 4 h1 (by decide)
    have b1 := f1 n 4 h1 (by decide)
    have c1 := g n 4 [0, 1, 2, 3] (by decide) rfl
    refine order_turn hA' hg hb a1 (by omega) (by decide) (by decide) c1 (by simp) ?_
    have a2 := f0 _ 3 a1 (by decide)
    have b2 := f1 _ 3 a1 (by decide)
    have c2 := g (n.fdiv 4) 3 _ (by decide) c1
    refine order_turn hA' hg hb a2 (by omega) (by decide) (by decide) c2 (by simp) ?_
    have a3 := f0 _ 2 a2 (by decide)
    have b3 := f1 _ 2 a2 (by decide)
    have c3 := g ((n.fdiv 4).fdiv 3) 2 _ (by decide) c2
    refine order_turn hA' hg hb a3 (by omega) (by decide) (by decide) c3 (by simp) ?_
    refine exs_cons (ex_retOwn (ev_name 2 rfl rfl (.inl rfl) rfl) (List.Mem.head _) rfl)
end Mine

/- L3 -/
namespace Mine

section
variable {c : Cx} {A : Around} {env : Env} {ns : List Str} {vals : List (Option D)} {bad : List Addr}
theorem ev_eq {e : Expr} {d d' : D} (h : Ev c A env ns vals bad e d) (q : d = d') : Ev c A env ns vals bad e d' := q ▸ h
end

theorem pick_take (xs : List Sc) (k : Nat) : pick xs none (some (k : Int)) none = xs.take k := by
  unfold pick sliceBounds
  simp only [Option.getD_none]
  have h1 : ¬ ((k : Int) < 0) := by omega
  simp only [h1, if_false, show (1 : Int) > 0 by decide, if_true]
  have e : max (0 : Int) (min (k : Int) xs.length) = ((min k xs.length : Nat) : Int) := by omega
  rw [e]
  have : sliceRange 0 ((min k xs.length : Nat) : Int) 1 = List.range (min k xs.length) := by
    unfold sliceRange
    simp only [show (1 : Int) > 0 by decide, if_true]
    by_cases h : (0 : Int) < ((min k xs.length : Nat) : Int)
    · simp only [h, if_true]
      have : (((min k xs.length : Nat) : Int) - 0 + 1 - 1) / 1 = ((min k xs.length : Nat) : Int) := by omega
      rw [this]
      simp
    · have h0 : min k xs.length = 0 := by omega
      simp [h0]
  rw [this]
  clear this e h1
  induction k generalizing xs with
  | zero => simp
  | succ k ih =>
    cases xs with
    | nil => simp
    | cons x xs =>
      have : min (k + 1) (x :: xs).length = min k xs.length + 1 := by simp
      rw [this, List.range_succ_eq_map, List.filterMap_cons]
      simp only [List.getElem?_cons_zero, List.take_succ_cons, List.filterMap_map]
      rw [← ih xs]
      rfl

/-! _law_refused -/
def placeOf (w : Str) : Int := (w.length : Int) - ((Txt.lstripChars w (Str.ofString ".")).length : Int) - 1
def suedF (pl : List Int) (orders : List (List Int)) : List Int := (List.range 4).map fun i => (orders.getD i []).getD (pl.getD i 0).toNat 0
def betterF (sued : List Int) (orders : List (List Int)) (j : Nat) : List Int :=
  (orders.getD (4 + sued.getD j 0).toNat []).take ((orders.getD (4 + sued.getD j 0).toNat []).idxOf (j : Int))
def rivals (sued : List Int) (orders : List (List Int)) (j : Nat) : List Int := (betterF sued orders j).filter fun o => sued.getD o.toNat 0 == sued.getD j 0
def isRef (sued : List Int) (orders : List (List Int)) (j : Nat) : Bool := !decide (rivals sued orders j = [])
def refusedS (sued : List Int) (orders : List (List Int)) : List Int := ((List.range 4).filter (isRef sued orders)).map fun (j : Nat) => (j : Int)

/-- eight orders of four -/
structure OrdOk (orders : List (List Int)) : Prop where
  len : orders.length = 8
  four : ∀ i, i < 8 → (orders.getD i []).length = 4
  rng : ∀ i, i < 8 → ∀ k ∈ orders.getD i [], 0 ≤ k ∧ k < 4
  all : ∀ i, i < 8 → ∀ k : Nat, k < 4 → (k : Int) ∈ orders.getD i []

abbrev sStrs (ws : List Str) : List Sc := ws.map Sc.str
def nsRefused : List Str := ["words", "orders", "places", "suitor", "sued", "refused", "liked", "better"]

theorem getD_lt {α : Type} {l : List α} {i : Nat} (d : α) (h : i < l.length) : l[i]? = some (l.getD i d) := by simp [h]
theorem getD_mem {α : Type} {l : List α} {i : Nat} (d : α) (h : i < l.length) : l.getD i d ∈ l := List.mem_of_getElem? (getD_lt d h)

theorem sued_rng {pl : List Int} {orders : List (List Int)} (O : OrdOk orders) (hp : ∀ i, i < 4 → 0 ≤ pl.getD i 0 ∧ pl.getD i 0 < 4) {j : Nat} (hj : j < 4) : 0 ≤ (suedF pl orders).getD j 0 ∧ (suedF pl orders).getD j 0 < 4 := by
  have e : (suedF pl orders).getD j 0 = (orders.getD j []).getD (pl.getD j 0).toNat 0 := by simp [suedF, hj]
  rw [e]
  have := hp j hj
  exact O.rng j (by omega) _ (getD_mem 0 (by rw [O.four j (by omega)]; omega))

/-- one turn of the loop -/
theorem refused_turn {c : Cx} {A : Around} {L a : Addr} {pm cd doc : Value} (hA : AOk A) {words : List Str} {orders : List (List Int)} {sued places : List Int} {ra : Addr} {r : List Int} {v6 v7 : Option D} {j : Nat} {Φ : Out → Prop}
    (O : OrdOk orders) (hj : j < 4) (hs : sued.length = 4) (hr : ∀ i, i < 4 → 0 ≤ sued.getD i 0 ∧ sued.getD i 0 < 4) (hl : r.length ≤ 100)
    (hn : ∀ v6 v7, Φ (.next [(ra, sInts (if isRef sued orders j then r ++ [(j : Int)] else r))] [some (.list (sStrs words)), some (.lists (orders.map sInts)), some (.list (sInts places)), some (.sc (.int (j : Nat))), some (.list (sInts sued)), some (.own ra), v6, v7])) :
    Exs c A (callEnvC (fdOf 11 pm cd doc) L a) nsRefused (match (bodyOf (defSt 11)) with | [_, _, _, .For _ _ b _ _, _] => b | _ => []) [(ra, sInts r)]
      [some (.list (sStrs words)), some (.lists (orders.map sInts)), some (.list (sInts places)), some (.sc (.int (j : Nat))), some (.list (sInts sued)), some (.own ra), v6, v7] Φ := by
  have hsj := hr j hj
  have hlk : (4 + sued.getD j 0).toNat < 8 := by omega
  have h4 := O.four _ hlk
  have hrng := O.rng _ hlk
  have hmem := O.all _ hlk j hj
  have esj : (sInts sued)[((j : Nat) : Int).toNat]? = some (.int (sued.getD j 0)) := by
    have : j < sued.length := by omega
    simp [this]
  have eol : (orders.map sInts)[(4 + sued.getD j 0).toNat]? = some (sInts (orders.getD (4 + sued.getD j 0).toNat [])) := by
    have : (4 + sued.getD j 0).toNat < orders.length := by rw [O.len]; omega
    rw [List.getElem?_map, getD_lt [] this]; rfl
  refine exs_cons (ex_assign 6 (ev_itemL (ev_name 1 rfl rfl (.inr rfl) rfl) (ev_add ev_int (ev_item (ev_name 4 rfl rfl (.inr rfl) rfl) (ev_name 3 rfl rfl (.inr rfl) rfl) (by omega) esj (by simp; omega) (fun _ _ => rfl))) (by omega) eol (by simp [O.len]) (fun _ _ => rfl)) rfl (.inl rfl) ?_ rfl)
  generalize hlike : orders.getD (4 + sued.getD j 0).toNat [] = liked at *
  have hb : betterF sued orders j = liked.take (liked.idxOf (j : Int)) := by unfold betterF; rw [hlike]
  refine exs_cons (ex_assign 7 (ev_eq (d' := .list (sInts (betterF sued orders j))) (ev_cut (ev_name 6 rfl rfl (.inl rfl) rfl) evp_none (evp_some (ev_method1 (T := "list") (id := "list.index") (ev_name 6 rfl rfl (.inl rfl) rfl) ofType_list PySem.F.plainAttrs_list PySem.F.slot_list_index PySem.F.type_list_index
    (ev_name 3 rfl rfl (.inr rfl) rfl) (bi_index hmem (by omega)) rfl rfl rfl rfl)) (by simp; omega)) (by rw [pick_take, hb]; simp [sInts, List.map_take])) rfl (.inl rfl) ?_ rfl)
  have hbr : ∀ o ∈ betterF sued orders j, 0 ≤ o ∧ o < 4 := fun o ho => hrng o (by rw [hb] at ho; exact List.mem_of_mem_take ho)
  have hbl : (betterF sued orders j).length ≤ 4 := by rw [hb, List.length_take]; omega
  refine exs_cons (ex_if (b := isRef sued orders j) (evb_cmp (d₁ := .list (sInts (rivals sued orders j))) (d₂ := .list (sInts []))
    (ev_eq (ev_comp (xs := sInts (betterF sued orders j)) (fun d => match d with | .int o => sued.getD o.toNat 0 == sued.getD j 0 | _ => false) id (it_list hA (ev_name 7 rfl rfl (.inl rfl) rfl)) rfl (by decide) rfl (by decide) rfl
      (.cons 4 rfl rfl rfl rfl rfl (.cons 3 rfl rfl rfl rfl rfl .nil)) (fun C d hd => ?_) (fun C d hd _ => ev_name 0 rfl rfl (.inl rfl) rfl) (by simp; omega) (fun _ => rfl)) ?_)
    (ev_list (xs := sInts []) evs_nil (by decide)) (cmp_ne_ints hA) rfl) (fun hb => ?_) (fun hb => ?_))
  · obtain ⟨o, ho, rfl⟩ := List.mem_map.mp hd
    have hor := hbr o ho
    refine evt_one (evb_cmp (ev_item (ev_name 1 rfl rfl (.inr rfl) rfl) (ev_name 0 rfl rfl (.inl rfl) rfl) hor.1 (d := .int (sued.getD o.toNat 0)) ?_ (by simp; omega) (fun _ _ => rfl))
      (ev_item (ev_name 1 rfl rfl (.inr rfl) rfl) (ev_name 2 rfl rfl (.inr rfl) rfl) (by omega) esj (by simp; omega) (fun _ _ => rfl)) cmp_eq_int rfl)
    have : o.toNat < sued.length := by omega
    simp [this]
  · simp only [List.map_id, D.list.injEq, rivals, sInts, List.filter_map]
    rfl
  · refine exs_cons (ex_append (pre := []) (post := []) (ev_name 5 rfl rfl (.inl rfl) rfl) (ev_name 3 rfl rfl (.inr rfl) rfl) (by simp; omega) (exs_nil (exs_nil ?_)) rfl rfl rfl rfl rfl rfl)
    have := hn (some (.list (sInts liked))) (some (.list (sInts (betterF sued orders j))))
    rw [if_pos hb] at this
    simpa [sInts] using this
  · refine exs_nil (exs_nil ?_)
    have := hn (some (.list (sInts liked))) (some (.list (sInts (betterF sued orders j))))
    rw [hb] at this
    exact this
end Mine

/- L4 -/
namespace Mine

theorem filter_tt (xs : List Sc) : xs.filter (fun _ => true) = xs := by induction xs <;> simp_all

theorem rangeS_mem {n : Nat} {d : Sc} (h : d ∈ rangeS n) : ∃ i : Nat, i < n ∧ d = .int (i : Nat) := by
  obtain ⟨i, hi, rfl⟩ := List.mem_map.mp h
  exact ⟨i, List.mem_range.mp hi, rfl⟩

theorem refused_spec {c : Cx} {A : Around} {pm cd doc : Value} (hA : AOk A) (hd : A.depth + 1 < recursionLimit) (hu : A.units + 67 < cLine)
    (hr0 : c.mg "range" = none) (hr1 : c.mb "range" = some (.type "range")) (hl0 : c.mg "len" = none) (hl1 : c.mb "len" = some (.builtin "len"))
    (F : FnOk c 72 (fdOf 11 pm cd doc) (bodyOf (defSt 11))) {words : List Str} {orders : List (List Int)} (O : OrdOk orders) (hw : words.length = 4) (hz : ∀ w ∈ words, w.length ≤ 1000)
    (hp : ∀ i, i < 4 → 0 ≤ (words.map placeOf).getD i 0 ∧ (words.map placeOf).getD i 0 < 4) :
    BiNew c A [] (.ref 72) [.list (sStrs words), .lists (orders.map sInts)] (sInts (refusedS (suedF (words.map placeOf) orders) orders)) := by
  refine biNew_def (ns := nsRefused) F hA ?_ (by decide) fun L => ?_
  · intro vs hl
    obtain ⟨v, u, rfl⟩ : ∃ v u, vs = [v, u] := by
      match vs, hl with
      | [v, u], _ => exact ⟨v, u, rfl⟩
    refine ⟨[("words", v), ("orders", u)], rfl, fun n x hx => ?_, fun i x z hi hv => ?_⟩
    · rcases List.mem_cons.mp hx with rfl | hx
      · exact .inl rfl
      · rw [List.mem_singleton.mp hx]; exact .inr ⟨rfl, rfl⟩
    · match i with
      | 0 =>
        simp at hv; subst hv
        simp [nsRefused] at hi; subst hi
        exact ⟨fun _ => rfl, fun q => nomatch q⟩
      | 1 =>
        simp at hv; subst hv
        simp [nsRefused] at hi; subst hi
        exact ⟨(fun q => nomatch q), fun _ => ⟨rfl, fun _ => rfl⟩⟩
      | i + 2 => simp at hv
  · have hA' : AOk (A.deeper (callEnvC (fdOf 11 pm cd doc) L 72)) := hA.deeper hd hu
    refine exs_cons (ex_assign 2 (ev_eq (d' := .list (sInts (words.map placeOf))) (ev_comp (xs := sStrs words) (fun _ => true) (fun d => match d with | .str w => .int (placeOf w) | d => d) (it_list hA' (ev_name 0 rfl rfl (.inl rfl) rfl)) rfl (by decide) rfl (by decide) rfl .nil
      (fun C d hd => evt_nil) (fun C d hd _ => ?_) (by simp; omega) (fun _ => rfl)) ?_) rfl (.inr ⟨rfl, rfl⟩) ?_ rfl)
    · obtain ⟨w, hw', rfl⟩ := List.mem_map.mp hd
      have hzw := hz w hw'
      refine ev_sub (ev_sub (ev_call_builtin (id := "len") rfl hl0 hl1 rfl (evs_cons (ev_name 0 rfl rfl (.inl rfl) rfl) evs_nil rfl) (bi_len_str (by omega)) rfl rfl rfl)
        (ev_call_builtin (id := "len") rfl hl0 hl1 rfl (evs_cons (ev_method1 (T := "str") (id := "str.lstrip") (ev_name 0 rfl rfl (.inl rfl) rfl) ofType_str PySem.F.plainAttrs_str PySem.F.slot_str_lstrip PySem.F.type_str_lstrip ev_str (bi_lstrip (by omega)) rfl rfl rfl rfl) evs_nil rfl) (bi_len_str ?_) rfl rfl rfl)) ev_int
      exact Nat.le_trans (len_lstripChars _ _) (by omega)
    · rw [filter_tt, List.map_map]; simp only [sInts, List.map_map]; rfl
    refine exs_cons (ex_assign 4 (ev_eq (d' := .list (sInts (suedF (words.map placeOf) orders))) (ev_comp (xs := rangeS 4) (fun _ => true) (fun d => match d with | .int i => .int ((orders.getD i.toNat []).getD ((words.map placeOf).getD i.toNat 0).toNat 0) | d => d)
      (it_range (n := 4) hA' rfl hr0 hr1 rfl ev_int (by decide) rfl rfl) rfl (by decide) rfl (by decide) rfl
      (.cons 1 rfl rfl rfl rfl rfl (.cons 2 rfl rfl rfl rfl rfl .nil)) (fun C d hd => evt_nil) (fun C d hd _ => ?_) (by decide) (fun _ => rfl)) ?_) rfl (.inr ⟨rfl, rfl⟩) ?_ rfl)
    · obtain ⟨i, hi, rfl⟩ := rangeS_mem hd
      have hpi := hp i hi
      have h8 : i < 8 := by omega
      refine ev_item (ev_itemL (xs := sInts (orders.getD i [])) (ev_name 1 rfl rfl (.inr rfl) rfl) (ev_name 0 rfl rfl (.inl rfl) rfl) (by omega) ?_ (by simp [O.len]) (fun _ _ => rfl))
        (ev_item (d := .int ((words.map placeOf).getD i 0)) (ev_name 2 rfl rfl (.inr rfl) rfl) (ev_name 0 rfl rfl (.inl rfl) rfl) (by omega) ?_ (by simp; omega) (fun _ _ => rfl)) hpi.1 ?_ (by rw [List.length_map, O.four i h8]; decide) (fun _ _ => rfl)
      · have : i < orders.length := by rw [O.len]; exact h8
        rw [List.getElem?_map, Int.toNat_natCast, getD_lt [] this]; rfl
      · have : i < (words.map placeOf).length := by simp; omega
        rw [List.getElem?_map, Int.toNat_natCast, getD_lt 0 this]; rfl
      · have : ((words.map placeOf).getD i 0).toNat < (orders.getD i []).length := by rw [O.four i h8]; omega
        rw [List.getElem?_map, getD_lt 0 this]
        show _ = some (Sc.int ((orders.getD ((i : Int)).toNat []).getD ((words.map placeOf).getD (i : Int).toNat 0).toNat 0))
        rw [Int.toNat_natCast]; rfl
    · simp [sInts, rangeS, suedF, List.range_succ]
    have hsr : ∀ i, i < 4 → 0 ≤ (suedF (words.map placeOf) orders).getD i 0 ∧ (suedF (words.map placeOf) orders).getD i 0 < 4 := fun i hi => sued_rng O hp hi
    generalize hsu : suedF (words.map placeOf) orders = sued at hsr ⊢
    have hsl : sued.length = 4 := by rw [← hsu]; simp [suedF]
    refine exs_cons (ex_assignOwn (xs := sInts []) 5 evs_nil rfl rfl (by decide) (fun ra _ => ?_) rfl)
    refine exs_cons (ex_for 3 (xs := rangeS 4) (it_range (n := 4) hA' rfl hr0 hr1 rfl ev_int (by decide) rfl rfl) rfl (.inr ⟨rfl, rfl⟩) ?_ (fun _ => rfl) fun _ _ => rfl)
    refine loop_inv (fun j own vals => ∃ v3 v6 v7, own = [(ra, sInts (((List.range j).filter (isRef sued orders)).map fun (j : Nat) => (j : Int)))] ∧
      vals = [some (.list (sStrs words)), some (.lists (orders.map sInts)), some (.list (sInts (words.map placeOf))), v3, some (.list (sInts sued)), some (.own ra), v6, v7]) ⟨none, none, none, rfl, rfl⟩ ?_ ?_
    · rintro j d own vals hj ⟨v3, v6, v7, rfl, rfl⟩
      obtain ⟨i, hi, rfl⟩ := rangeS_mem (List.mem_of_getElem? hj)
      obtain rfl : i = j := by
        have : j < 4 := by
          rcases Nat.lt_or_ge j 4 with h | h
          · exact h
          · rw [List.getElem?_eq_none (by simpa [rangeS] using h)] at hj; cases hj
        simp [rangeS, this] at hj
        omega
      refine refused_turn hA' O hi hsl hsr (by have := List.length_filter_le (isRef sued orders) (List.range i); simp at this ⊢; omega) fun v6 v7 => ⟨_, v6, v7, ?_, rfl⟩
      rw [List.range_succ, List.filter_append, List.map_append]
      by_cases hb : isRef sued orders i <;> simp [hb]
    · rintro own vals ⟨v3, v6, v7, rfl, rfl⟩
      exact exs_cons (ex_retOwn (ev_name 5 rfl rfl (.inl rfl) rfl) (List.Mem.head _) rfl)
end Mine

/- L5 -/
namespace Mine

structure AN (A : Around) (k : Nat) : Prop where
  hh : A.handled = none
  un : A.units + 64 + 3 * k < cLine
  dp : A.depth + k < recursionLimit
theorem AN.ok {A : Around} {k : Nat} (h : AN A k) : AOk A := ⟨h.hh, by have := h.un; omega, by have := h.dp; omega⟩
theorem AN.deeper {A : Around} {env : Env} {k : Nat} (h : AN A (k + 1)) : AN (A.deeper env) k :=
  ⟨h.hh, by show A.units + 3 + 64 + 3 * k < cLine; have := h.un; omega, by show A.depth + 1 + k < recursionLimit; have := h.dp; omega⟩
theorem AN.d1 {A : Around} {k : Nat} (h : AN A (k + 1)) : A.depth + 1 < recursionLimit := by have := h.dp; omega
theorem AN.u1 {A : Around} {k : Nat} (h : AN A (k + 1)) : A.units + 67 < cLine := by have := h.un; omega

/-! _law_stable -/
def okAt (pairs : List Int) (orders : List (List Int)) (i : Nat) (o : Int) : Bool :=
  !decide (((orders.getD (4 + o).toNat []).idxOf (i : Int) : Int) < ((orders.getD (4 + o).toNat []).idxOf ((pairs.idxOf o : Nat) : Int) : Int))
def aboveF (pairs : List Int) (orders : List (List Int)) (i : Nat) : List Int := (orders.getD i []).take ((orders.getD i []).idxOf (pairs.getD i 0))
def stableF (pairs : List Int) (orders : List (List Int)) : Bool := (List.range 4).all fun i => (aboveF pairs orders i).all (okAt pairs orders i)

structure PermOk (pairs : List Int) : Prop where
  len : pairs.length = 4
  rng : ∀ k ∈ pairs, 0 ≤ k ∧ k < 4
  all : ∀ k : Nat, k < 4 → (k : Int) ∈ pairs

def nsStable : List Str := ["pairs", "orders", "suitor", "other", "liked"]

theorem mem_nat {l : List Int} (h : ∀ k : Nat, k < 4 → (k : Int) ∈ l) {o : Int} (h0 : 0 ≤ o) (h4 : o < 4) : o ∈ l := by
  have := h o.toNat (by omega)
  rwa [Int.toNat_of_nonneg h0] at this
theorem idx_lt {l : List Int} (h : l.length = 4) {o : Int} (ho : o ∈ l) : l.idxOf o < 4 := by rw [← h]; exact List.idxOf_lt_length_iff.mpr ho

theorem stable_spec {c : Cx} {A : Around} {pm cd doc : Value} (hA : AN A 1) (hr0 : c.mg "range" = none) (hr1 : c.mb "range" = some (.type "range"))
    (F : FnOk c 86 (fdOf 13 pm cd doc) (bodyOf (defSt 13))) {pairs : List Int} {orders : List (List Int)} (O : OrdOk orders) (P : PermOk pairs) :
    Bi c A [] (.ref 86) [.list (sInts pairs), .lists (orders.map sInts)] (.sc (.bool (stableF pairs orders))) := by
  refine bi_def (ns := nsStable) F hA.ok ?_ (by decide) fun L => ?_
  · intro vs hl
    obtain ⟨v, u, rfl⟩ : ∃ v u, vs = [v, u] := by
      match vs, hl with
      | [v, u], _ => exact ⟨v, u, rfl⟩
    refine ⟨[("pairs", v), ("orders", u)], rfl, fun n x hx => ?_, fun i x z hi hv => ?_⟩
    · rcases List.mem_cons.mp hx with rfl | hx
      · exact .inl rfl
      · rw [List.mem_singleton.mp hx]; exact .inl rfl
    · match i with
      | 0 =>
        simp at hv; subst hv
        simp [nsStable] at hi; subst hi
        exact ⟨fun _ => rfl, fun q => nomatch q⟩
      | 1 =>
        simp at hv; subst hv
        simp [nsStable] at hi; subst hi
        exact ⟨fun _ => rfl, fun q => nomatch q⟩
      | i + 2 => simp at hv
  · have hA' : AOk (A.deeper (callEnvC (fdOf 13 pm cd doc) L 86)) := (hA.deeper).ok
    refine exs_cons (ex_for 2 (xs := rangeS 4) (it_range (n := 4) hA' rfl hr0 hr1 rfl ev_int (by decide) rfl rfl) rfl (.inl rfl) ?_ (fun _ => rfl) fun _ _ => rfl)
    refine loop_inv (fun j own vals => (∀ i, i < j → (aboveF pairs orders i).all (okAt pairs orders i) = true) ∧ ∃ v2 v3 v4, own = [] ∧ vals = [some (.list (sInts pairs)), some (.lists (orders.map sInts)), v2, v3, v4])
      ⟨fun i hi => absurd hi (Nat.not_lt_zero _), none, none, none, rfl, rfl⟩ ?_ ?_
    · rintro j d own vals hj ⟨hok, v2, v3, v4, rfl, rfl⟩
      obtain ⟨i, hi, rfl⟩ := rangeS_mem (List.mem_of_getElem? hj)
      obtain rfl : i = j := by
        have : j < 4 := by
          rcases Nat.lt_or_ge j 4 with h | h
          · exact h
          · rw [List.getElem?_eq_none (by simpa [rangeS] using h)] at hj; cases hj
        simp [rangeS, this] at hj
        omega
      have h8 : i < 8 := by omega
      have h4 := O.four i h8
      have hpi : pairs.getD i 0 ∈ pairs := getD_mem 0 (by rw [P.len]; exact hi)
      have hpr := P.rng _ hpi
      have hpo : pairs.getD i 0 ∈ orders.getD i [] := mem_nat (O.all i h8) hpr.1 hpr.2
      have eoi : (orders.map sInts)[((i : Nat) : Int).toNat]? = some (sInts (orders.getD i [])) := by
        have : i < orders.length := by rw [O.len]; exact h8
        rw [List.getElem?_map, Int.toNat_natCast, getD_lt [] this]; rfl
      have epi : (sInts pairs)[((i : Nat) : Int).toNat]? = some (.int (pairs.getD i 0)) := by
        have : i < pairs.length := by rw [P.len]; exact hi
        rw [List.getElem?_map, Int.toNat_natCast, getD_lt 0 this]; rfl
      refine exs_cons (ex_for 3 (xs := sInts (aboveF pairs orders i)) ?_ rfl (.inl rfl) ?_ (fun _ => rfl) fun _ _ => rfl)
      · refine it_list hA' (ev_eq (ev_cut (ev_itemL (ev_name 1 rfl rfl (.inl rfl) rfl) (ev_name 2 rfl rfl (.inl rfl) rfl) (by omega) eoi (by simp [O.len]) (fun _ _ => rfl)) evp_none (evp_some
          (ev_method1 (T := "list") (id := "list.index") (ev_itemL (ev_name 1 rfl rfl (.inl rfl) rfl) (ev_name 2 rfl rfl (.inl rfl) rfl) (by omega) eoi (by simp [O.len]) (fun _ _ => rfl)) ofType_list PySem.F.plainAttrs_list PySem.F.slot_list_index PySem.F.type_list_index
            (ev_item (ev_name 0 rfl rfl (.inl rfl) rfl) (ev_name 2 rfl rfl (.inl rfl) rfl) (by omega) epi (by simp [P.len]) (fun _ _ => rfl)) (bi_index hpo (by omega)) rfl rfl rfl rfl)) (by rw [List.length_map, h4]; decide)) ?_)
        rw [pick_take]; simp [sInts, aboveF, List.map_take]
      · refine loop_inv (fun k own vals => (∀ o ∈ (aboveF pairs orders i).take k, okAt pairs orders i o = true) ∧ ∃ v3 v4, own = [] ∧ vals = [some (.list (sInts pairs)), some (.lists (orders.map sInts)), some (.sc (.int (i : Nat))), v3, v4])
          ⟨fun o ho => (nomatch ho), _, _, rfl, rfl⟩ ?_ ?_
        · rintro k d own vals hk ⟨hko, v3, v4, rfl, rfl⟩
          rw [List.getElem?_map] at hk
          obtain ⟨o, hko', rfl⟩ : ∃ o, (aboveF pairs orders i)[k]? = some o ∧ d = .int o := by
            cases q : (aboveF pairs orders i)[k]? with
            | none => rw [q] at hk; cases hk
            | some o => rw [q] at hk; cases hk; exact ⟨o, rfl, rfl⟩
          have hoa : o ∈ aboveF pairs orders i := List.mem_of_getElem? hko'
          have hor := O.rng i h8 o (List.mem_of_mem_take hoa)
          have hl8 : (4 + o).toNat < 8 := by omega
          have hl4 := O.four _ hl8
          have hop : o ∈ pairs := mem_nat P.all hor.1 hor.2
          have hix := idx_lt P.len hop
          have hil : ((i : Nat) : Int) ∈ orders.getD (4 + o).toNat [] := O.all _ hl8 i hi
          have hpl : ((pairs.idxOf o : Nat) : Int) ∈ orders.getD (4 + o).toNat [] := O.all _ hl8 _ hix
          have eol : (orders.map sInts)[(4 + o).toNat]? = some (sInts (orders.getD (4 + o).toNat [])) := by
            have : (4 + o).toNat < orders.length := by rw [O.len]; exact hl8
            rw [List.getElem?_map, getD_lt [] this]; rfl
          refine exs_cons (ex_assign 4 (ev_itemL (ev_name 1 rfl rfl (.inl rfl) rfl) (ev_add ev_int (ev_name 3 rfl rfl (.inl rfl) rfl)) (by omega) eol (by simp [O.len]) (fun _ _ => rfl)) rfl (.inl rfl) ?_ rfl)
          refine exs_cons (ex_if (evb_cmp (ev_method1 (T := "list") (id := "list.index") (ev_name 4 rfl rfl (.inl rfl) rfl) ofType_list PySem.F.plainAttrs_list PySem.F.slot_list_index PySem.F.type_list_index (ev_name 2 rfl rfl (.inl rfl) rfl) (bi_index hil (by omega)) rfl rfl rfl rfl)
            (ev_method1 (T := "list") (id := "list.index") (ev_name 4 rfl rfl (.inl rfl) rfl) ofType_list PySem.F.plainAttrs_list PySem.F.slot_list_index PySem.F.type_list_index
              (ev_method1 (T := "list") (id := "list.index") (ev_name 0 rfl rfl (.inl rfl) rfl) ofType_list PySem.F.plainAttrs_list PySem.F.slot_list_index PySem.F.type_list_index (ev_name 3 rfl rfl (.inl rfl) rfl) (bi_index hop (by rw [P.len]; decide)) rfl rfl rfl rfl)
              (bi_index hpl (by omega)) rfl rfl rfl rfl) cmp_lt_int rfl) (fun hb => ?_) (fun hb => ?_))
          · refine exs_cons (ex_ret ev_bool ?_)
            have : stableF pairs orders = false := by
              rw [Bool.eq_false_iff]
              intro q
              have q1 := List.all_eq_true.mp q i (by simpa using hi)
              have q2 := List.all_eq_true.mp q1 o hoa
              rw [okAt, hb] at q2
              cases q2
            exact congrArg (fun b => Out.ret (.sc (.bool b))) this.symm
          · refine exs_nil (exs_nil ⟨fun o' ho' => ?_, _, _, rfl, rfl⟩)
            have hlt : k < (aboveF pairs orders i).length := by
              rcases Nat.lt_or_ge k (aboveF pairs orders i).length with h | h
              · exact h
              · rw [List.getElem?_eq_none h] at hko'; cases hko'
            rw [List.take_add_one, hko'] at ho'
            rcases List.mem_append.mp ho' with z | z
            · exact hko o' z
            · simp at z
              subst z
              rw [okAt, hb]; rfl
        · rintro own vals ⟨hko, v3, v4, rfl, rfl⟩
          refine exs_nil ⟨fun i' hi' => ?_, _, _, _, rfl, rfl⟩
          rcases Nat.lt_or_ge i' i with h | h
          · exact hok i' h
          · obtain rfl : i' = i := by omega
            refine List.all_eq_true.mpr fun o ho => hko o ?_
            rw [List.take_of_length_le (by simp)]
            exact ho
    · rintro own vals ⟨hok, v2, v3, v4, rfl, rfl⟩
      refine exs_cons (ex_ret ev_bool ?_)
      have : stableF pairs orders = true := List.all_eq_true.mpr fun i hi => hok i (by simpa [rangeS] using hi)
      exact congrArg (fun b => Out.ret (.sc (.bool b))) this.symm
end Mine

/- L6 -/
namespace Mine

/-! _law_best -/
def rankF (orders : List (List Int)) (pairs : List Int) (i : Nat) : Nat := (orders.getD i []).idxOf (pairs.getD i 0)
def lowerF (orders : List (List Int)) (pairs best : List Int) : List Int := (List.range 4).map fun i => if (rankF orders pairs i : Int) < best.getD i 0 then (rankF orders pairs i : Int) else best.getD i 0
def bestGo (orders : List (List Int)) : Nat → List Int
  | 0 => [3, 3, 3, 3]
  | n + 1 => if stableF (orderOf (n : Nat)) orders then lowerF orders (orderOf (n : Nat)) (bestGo orders n) else bestGo orders n
def bestF (orders : List (List Int)) : List Int := bestGo orders 24

theorem bestGo_len (orders : List (List Int)) : ∀ n, (bestGo orders n).length = 4
  | 0 => rfl
  | n + 1 => by
    unfold bestGo
    split
    · simp [lowerF]
    · exact bestGo_len orders n

theorem order_perm : ∀ n : Nat, n < 24 → PermOk (orderOf (n : Nat)) := by
  have h : ∀ n : Fin 24, (orderOf ((n : Nat) : Int)).length = 4 ∧ (∀ k ∈ orderOf ((n : Nat) : Int), 0 ≤ k ∧ k < 4) ∧ ∀ k : Fin 4, ((k : Nat) : Int) ∈ orderOf ((n : Nat) : Int) := by decide +kernel
  intro n hn
  obtain ⟨h1, h2, h3⟩ := h ⟨n, hn⟩
  exact ⟨h1, h2, fun k hk => h3 ⟨k, hk⟩⟩

def nsBest : List Str := ["orders", "best", "number", "pairs"]

theorem best_spec {c : Cx} {A : Around} {pm cd doc pm1 cd1 doc1 pm2 cd2 doc2 : Value} (hA : AN A 2) (hr0 : c.mg "range" = none) (hr1 : c.mb "range" = some (.type "range")) (hd0 : c.mg "divmod" = none) (hd1 : c.mb "divmod" = some (.builtin "divmod"))
    (hm0 : c.mg "min" = none) (hm1 : c.mb "min" = some (.builtin "min")) (ho : c.mg "_law_order" = some (.ref 67)) (hs : c.mg "_law_stable" = some (.ref 86))
    {o67 o86 : Obj} (k67 : c.K.lookup 67 = some o67) (d67 : o67.data = .func (fdOf 10 pm1 cd1 doc1)) (k86 : c.K.lookup 86 = some o86) (d86 : o86.data = .func (fdOf 13 pm2 cd2 doc2))
    (F : FnOk c 91 (fdOf 14 pm cd doc) (bodyOf (defSt 14))) (F1 : FnOk c 67 (fdOf 10 pm1 cd1 doc1) (bodyOf (defSt 10))) (F2 : FnOk c 86 (fdOf 13 pm2 cd2 doc2) (bodyOf (defSt 13))) {orders : List (List Int)} (O : OrdOk orders) :
    Bi c A [] (.ref 91) [.lists (orders.map sInts)] (.list (sInts (bestF orders))) := by
  refine bi_def (ns := nsBest) F hA.ok ?_ (by decide) fun L => ?_
  · intro vs hl
    obtain ⟨v, rfl⟩ : ∃ v, vs = [v] := by
      match vs, hl with
      | [v], _ => exact ⟨v, rfl⟩
    refine ⟨[("orders", v)], rfl, fun n x hx => ?_, fun i x z hi hv => ?_⟩
    · rw [List.mem_singleton.mp hx]; exact .inr ⟨rfl, rfl⟩
    · match i with
      | 0 =>
        simp at hv; subst hv
        simp [nsBest] at hi; subst hi
        exact ⟨(fun q => nomatch q), fun _ => ⟨rfl, fun _ => rfl⟩⟩
      | i + 1 => simp at hv
  · have hA1 : AN (A.deeper (callEnvC (fdOf 14 pm cd doc) L 91)) 1 := hA.deeper
    have hA' := hA1.ok
    refine exs_cons (ex_assign 1 (ev_list (xs := sInts [3, 3, 3, 3]) (evs_cons ev_int (evs_cons ev_int (evs_cons ev_int (evs_cons ev_int evs_nil rfl) rfl) rfl) rfl) (by decide)) rfl (.inr ⟨rfl, rfl⟩) ?_ rfl)
    refine exs_cons (ex_for 2 (xs := rangeS 24) (it_range (n := 24) hA' rfl hr0 hr1 rfl ev_int (by decide) rfl rfl) rfl (.inl rfl) ?_ (fun _ => rfl) fun _ _ => rfl)
    refine loop_inv (fun j own vals => ∃ v2 v3, own = [] ∧ vals = [some (.lists (orders.map sInts)), some (.list (sInts (bestGo orders j))), v2, v3]) ⟨none, none, rfl, rfl⟩ ?_ ?_
    · rintro j d own vals hj ⟨v2, v3, rfl, rfl⟩
      obtain ⟨i, hi, rfl⟩ := rangeS_mem (List.mem_of_getElem? hj)
      obtain rfl : i = j := by
        have : j < 24 := by
          rcases Nat.lt_or_ge j 24 with h | h
          · exact h
          · rw [List.getElem?_eq_none (by simpa [rangeS] using h)] at hj; cases hj
        simp [rangeS, this] at hj
        omega
      have P := order_perm i hi
      have hbl := bestGo_len orders i
      refine exs_cons (ex_assign 3 (ev_call_def rfl ho rfl k67 d67 (evs_cons (ev_name 2 rfl rfl (.inl rfl) rfl) evs_nil rfl) (order_spec hA' hA1.d1 hA1.u1 hd0 hd1 F1 (by omega) (by omega)).bi rfl rfl) rfl (.inr ⟨rfl, rfl⟩) ?_ rfl)
      refine exs_cons (ex_if (b := stableF (orderOf (i : Nat)) orders) (evb_bool (ev_call_def rfl hs rfl k86 d86 (evs_cons (ev_name 3 rfl rfl (.inr rfl) rfl) (evs_cons (ev_name 0 rfl rfl (.inr rfl) rfl) evs_nil rfl) rfl) (stable_spec hA1 hr0 hr1 F2 O P) rfl rfl) rfl) (fun hb => ?_) (fun hb => ?_))
      · refine exs_cons (ex_assign 1 (ev_eq (d' := .list (sInts (bestGo orders (i + 1)))) (ev_comp (xs := rangeS 4) (fun _ => true) (fun d => match d with | .int k => .int (if (rankF orders (orderOf (i : Nat)) k.toNat : Int) < (bestGo orders i).getD k.toNat 0 then (rankF orders (orderOf (i : Nat)) k.toNat : Int) else (bestGo orders i).getD k.toNat 0) | d => d)
          (it_range (n := 4) hA' rfl hr0 hr1 rfl ev_int (by decide) rfl rfl) rfl (by decide) rfl (by decide) rfl
          (.cons 1 rfl rfl rfl rfl rfl (.cons 0 rfl rfl rfl rfl rfl (.cons 3 rfl rfl rfl rfl rfl .nil))) (fun C d hd => evt_nil) (fun C d hd _ => ?_) (by decide) (fun _ => rfl)) ?_) rfl (.inr ⟨rfl, rfl⟩) ?_ rfl)
        · obtain ⟨k, hk, rfl⟩ := rangeS_mem hd
          have hk8 : k < 8 := by omega
          have hpk : (orderOf (i : Nat)).getD k 0 ∈ orderOf (i : Nat) := getD_mem 0 (by rw [P.len]; exact hk)
          have hpr := P.rng _ hpk
          have hpo : (orderOf (i : Nat)).getD k 0 ∈ orders.getD k [] := mem_nat (O.all k hk8) hpr.1 hpr.2
          refine ev_call_builtin (id := "min") rfl hm0 hm1 rfl (evs_cons (ev_item (d := .int ((bestGo orders i).getD k 0)) (ev_name 1 rfl rfl (.inr rfl) rfl) (ev_name 0 rfl rfl (.inl rfl) rfl) (by omega) ?_ (by simp [hbl]) (fun _ _ => rfl))
            (evs_cons (ev_method1 (T := "list") (id := "list.index") (ev_itemL (xs := sInts (orders.getD k [])) (ev_name 2 rfl rfl (.inr rfl) rfl) (ev_name 0 rfl rfl (.inl rfl) rfl) (by omega) ?_ (by simp [O.len]) (fun _ _ => rfl)) ofType_list PySem.F.plainAttrs_list PySem.F.slot_list_index PySem.F.type_list_index
              (ev_item (d := .int ((orderOf (i : Nat)).getD k 0)) (ev_name 3 rfl rfl (.inr rfl) rfl) (ev_name 0 rfl rfl (.inl rfl) rfl) (by omega) ?_ (by simp [P.len]) (fun _ _ => rfl)) (bi_index hpo (by rw [O.four k hk8]; decide)) rfl rfl rfl rfl) evs_nil rfl) rfl) (bi_min hA') rfl rfl rfl
          · have : k < (bestGo orders i).length := by rw [hbl]; exact hk
            rw [List.getElem?_map, Int.toNat_natCast, getD_lt 0 this]; rfl
          · have : k < orders.length := by rw [O.len]; exact hk8
            rw [List.getElem?_map, Int.toNat_natCast, getD_lt [] this]; rfl
          · have : k < (orderOf (i : Nat)).length := by rw [P.len]; exact hk
            rw [List.getElem?_map, Int.toNat_natCast, getD_lt 0 this]; rfl
        · rw [filter_tt]
          simp only [bestGo, hb, if_true, lowerF, rangeS, sInts, List.map_map]
          rfl
        · exact exs_nil (exs_nil ⟨_, _, rfl, rfl⟩)
      · refine exs_nil (exs_nil ⟨some (.sc (.int (i : Nat))), some (.list (sInts (orderOf (i : Nat)))), rfl, ?_⟩)
        have e : bestGo orders (i + 1) = bestGo orders i := by rw [bestGo, hb]; rfl
        rw [e]
        rfl
    · rintro own vals ⟨v2, v3, rfl, rfl⟩
      exact exs_cons (ex_ret (ev_name 1 rfl rfl (.inr rfl) rfl) rfl)
end Mine

/- S1 -/
namespace Mine
open Sre

def stepN : Nat → M → M
  | 0, m => m
  | n + 1, m => stepN n m.step
theorem step_done {m : M} (h : m.outcome.isSome = true) : m.step = m := by unfold M.step; rw [if_pos h]
theorem stepN_done {m : M} (h : m.outcome.isSome = true) : ∀ n, stepN n m = m
  | 0 => rfl
  | n + 1 => by unfold stepN; rw [step_done h]; exact stepN_done h n
theorem runFor_eq : ∀ (n : Nat) (m : M), M.runFor n m = stepN n m
  | 0, _ => rfl
  | n + 1, m => by
    unfold M.runFor stepN
    by_cases h : m.outcome.isSome = true
    · rw [if_pos h, step_done h, stepN_done h]
    · rw [if_neg h]; exact runFor_eq n m.step
theorem stepN_add : ∀ (a b : Nat) (m : M), stepN (a + b) m = stepN b (stepN a m)
  | 0, b, m => by rw [Nat.zero_add]; rfl
  | a + 1, b, m => by rw [Nat.succ_add]; exact stepN_add a b m.step

/-- m comes to m' within k steps -/
def Rch (k : Nat) (m m' : M) : Prop := ∃ n, n ≤ k ∧ stepN n m = m'
theorem Rch.refl (m : M) : Rch 0 m m := ⟨0, Nat.le_refl _, rfl⟩
theorem Rch.trans {a b : Nat} {m m' m'' : M} (x : Rch a m m') (y : Rch b m' m'') : Rch (a + b) m m'' := by
  obtain ⟨n, hn, rfl⟩ := x
  obtain ⟨k, hk, rfl⟩ := y
  exact ⟨n + k, by omega, stepN_add n k m⟩
theorem Rch.step {k : Nat} {m m' m'' : M} (h : m.step = m') (x : Rch k m' m'') : Rch (k + 1) m m'' := by
  obtain ⟨n, hn, rfl⟩ := x
  exact ⟨n + 1, by omega, by rw [← h]; rfl⟩
theorem Rch.mono {a b : Nat} {m m' : M} (x : Rch a m m') (h : a ≤ b) : Rch b m m' := let ⟨n, hn, e⟩ := x; ⟨n, Nat.le_trans hn h, e⟩

section
variable {M' : Model} {A : Around} {E : Value → Shared → Prop} {s : Shared}
open Builtin.Re in
theorem wp_drive {m' : M} (ho : m'.outcome.isSome = true) {Q : M → Shared → Prop} (h : Q m' s) : ∀ (turns n : Nat) (m : M), stepN n m = m' → n ≤ 4 * turns → 0 < turns → wpAny M' A (reDrive turns m) Q E s
  | 0, n, m, e, hn, h0 => absurd h0 (Nat.lt_irrefl _)
  | turns + 1, n, m, e, hn, h0 => by
    unfold reDrive
    rw [runFor_eq]
    have h4 : stepN reTurnSteps m = stepN 4 m := rfl
    rw [h4]
    by_cases hs : (stepN 4 m).outcome.isSome = true
    · show wpAny M' A (if (stepN 4 m).outcome.isSome = true then _ else _) Q E s
      rw [if_pos hs]
      have : stepN 4 m = m' := by
        rcases Nat.le_total n 4 with q | q
        · have z : stepN 4 m = stepN (4 - n) (stepN n m) := by rw [← stepN_add]; congr 1; omega
          rw [z, e, stepN_done ho]
        · have z : stepN n m = stepN (n - 4) (stepN 4 m) := by rw [← stepN_add]; congr 1; omega
          rw [stepN_done hs] at z
          rw [← z, e]
      rw [this]
      exact wpAny_pure h
    · show wpAny M' A (if (stepN 4 m).outcome.isSome = true then _ else _) Q E s
      rw [if_neg hs]
      have hn4 : 4 < n := by
        rcases Nat.lt_or_ge 4 n with q | q
        · exact q
        · exfalso
          apply hs
          have z : stepN 4 m = stepN (4 - n) (stepN n m) := by rw [← stepN_add]; congr 1; omega
          rw [z, e, stepN_done ho]
          exact ho
      have z : stepN n m = stepN (n - 4) (stepN 4 m) := by rw [← stepN_add]; congr 1; omega
      refine wpAny_bind (wpAny_rule ?_)
      refine wp_drive ho h turns (n - 4) (stepN 4 m) (by rw [← z]; exact e) (by omega) (by omega)

open Builtin.Re in
theorem wp_run {m m' : M} {k : Nat} (x : Rch k m m') (hk : k ≤ 2 ^ 60) (ho : m'.outcome = some .matched ∨ m'.outcome = some .failed) {Q : Option M → Shared → Prop}
    (h : Q (if m'.outcome matches some .matched then some m' else none) s) : wpAny M' A (reRunToEnd m) Q E s := by
  obtain ⟨n, hn, e⟩ := x
  have hs : m'.outcome.isSome = true := by rcases ho with q | q <;> rw [q] <;> rfl
  unfold reRunToEnd
  refine wpAny_bind (wp_drive hs ?_ (2 ^ 64) n m e (by omega) (by decide))
  refine wpAny_bind (wpAny_forIn_list _ (fun _ _ s' => s' = s) _ ?_ ?_ _ _ rfl)
  · rintro i rest b s' rfl
    by_cases q : m'.seen.has i = true
    · rw [if_pos q]; exact wpAny_bind (wpAny_rule (wpAny_pure rfl))
    · rw [if_neg q]; exact wpAny_pure rfl
  · rintro b s' rfl
    rcases ho with q | q
    · rw [q] at h ⊢; exact wpAny_pure h
    · rw [q] at h ⊢; exact wpAny_pure h
end
end Mine

/- S2 -/
namespace Mine
open Sre

/-- the machine, its fields in sight -/
abbrev mm (code text : Array Nat) (lim ls start pc pos handed : Nat) (om : Bool) (marks : Array (Option Nat)) (lm li : Int) (fr : List Sre.Frame) (wt : Nat) (an : Option Bool) (seen : Sre.Seen) : M :=
  { code, text, lim, start, lastStart := ls, pc, pos, handed, outermost := om, marks, lastmark := lm, lastindex := li, frames := fr, weight := wt, answer := an, seen }

inductive Res where
  | no
  | yes (a b : Nat) (marks : Array (Option Nat)) (lm : Int)
def IsRes (m : M) : Res → Prop
  | .no => m.outcome = some .failed
  | .yes a b marks lm => m.outcome = some .matched ∧ m.start = a ∧ m.handed = b ∧ m.marks = marks ∧ m.lastmark = lm
def Wr (k : Nat) (m : M) (r : Res) : Prop := ∃ m', Rch k m m' ∧ IsRes m' r
theorem Wr.step {k : Nat} {m m' : M} {r : Res} (h : m.step = m') (x : Wr k m' r) : Wr (k + 1) m r := let ⟨q, y, z⟩ := x; ⟨q, y.step h, z⟩
theorem Wr.mono {a b : Nat} {m : M} {r : Res} (x : Wr a m r) (h : a ≤ b) : Wr b m r := let ⟨q, y, z⟩ := x; ⟨q, y.mono h, z⟩

section
variable {code text : Array Nat} {lim ls start pc pos handed : Nat} {om : Bool} {marks : Array (Option Nat)} {lm li : Int} {fr : List Sre.Frame} {wt : Nat} {an : Option Bool} {seen : Sre.Seen} {k : Nat} {r : Res}

theorem step_exec (hp : pc < code.size) : (mm code text lim ls start pc pos handed om marks lm li fr wt none seen).step = (mm code text lim ls start pc pos handed om marks lm li fr wt none seen).exec := by
  unfold M.step
  simp only [Option.isSome_none, Bool.false_eq_true, if_false]
  rw [if_pos hp]
theorem w_end_no : Wr 1 (mm code text lim ls start pc pos handed om marks lm li [] wt (some false) seen) .no := ⟨_, (Rch.refl _).step rfl, rfl⟩
theorem w_end_yes : Wr 1 (mm code text lim ls start pc pos handed om marks lm li [] wt (some true) seen) (.yes start handed marks lm) := ⟨_, (Rch.refl _).step rfl, rfl, rfl, rfl, rfl, rfl⟩

theorem accepts_lit {i c : Nat} (h0 : code.getD i 0 = 16) : accepts code i c seen = .ok (c == code.getD (i + 1) 0, seen) := by
  unfold accepts
  rw [h0]
  rfl
theorem accepts_any {i c : Nat} (h0 : code.getD i 0 = 2) : accepts code i c seen = .ok (c != 10, seen) := by
  unfold accepts
  rw [h0]
  rfl
theorem accepts_notlit {i c : Nat} (h0 : code.getD i 0 = 20) : accepts code i c seen = .ok (c != code.getD (i + 1) 0, seen) := by
  unfold accepts
  rw [h0]
  rfl

theorem w_lit_ok (hp : pc < code.size) (h0 : code.getD pc 0 = 16) (hl : pos < lim) (hc : text.getD pos 0 = code.getD (pc + 1) 0)
    (x : ∀ seen, Wr k (mm code text lim ls start (pc + 2) (pos + 1) handed om marks lm li fr wt none seen) r) : Wr (k + 1) (mm code text lim ls start pc pos handed om marks lm li fr wt none seen) r := by
  refine Wr.step ?_ (x (seen.add 16))
  rw [step_exec hp]
  unfold M.exec
  have hw : (mm code text lim ls start pc pos handed om marks lm li fr wt none seen).word 0 = 16 := h0
  rw [hw]
  show (if pos ≥ lim then _ else match accepts code pc (text.getD pos 0) (seen.add 16) with | .error why => _ | .ok (false, seen) => _ | .ok (true, seen) => _) = _
  rw [if_neg (by omega), accepts_lit h0, hc, beq_self_eq_true]
  have hi : itemWidth code pc = 2 := by unfold itemWidth; rw [h0]; rfl
  show ({ mm code text lim ls start pc pos handed om marks lm li fr wt none seen with seen := seen.add 16, pc := pc + itemWidth code pc, pos := pos + 1 } : M) = _
  rw [hi]
theorem w_lit_no (hp : pc < code.size) (h0 : code.getD pc 0 = 16) (hc : lim ≤ pos ∨ text.getD pos 0 ≠ code.getD (pc + 1) 0)
    (x : ∀ seen, Wr k (mm code text lim ls start pc pos handed om marks lm li fr wt (some false) seen) r) : Wr (k + 1) (mm code text lim ls start pc pos handed om marks lm li fr wt none seen) r := by
  refine Wr.step ?_ (x (seen.add 16))
  rw [step_exec hp]
  unfold M.exec
  have hw : (mm code text lim ls start pc pos handed om marks lm li fr wt none seen).word 0 = 16 := h0
  rw [hw]
  show (if pos ≥ lim then _ else match accepts code pc (text.getD pos 0) (seen.add 16) with | .error why => _ | .ok (false, seen) => _ | .ok (true, seen) => _) = _
  by_cases hl : pos ≥ lim
  · rw [if_pos hl]; rfl
  · rw [if_neg hl, accepts_lit h0, beq_eq_false_iff_ne.mpr (hc.resolve_left hl)]
    rfl
theorem w_jump (hp : pc < code.size) (h0 : code.getD pc 0 = 15)
    (x : ∀ seen, Wr k (mm code text lim ls start (pc + 1 + code.getD (pc + 1) 0) pos handed om marks lm li fr wt none seen) r) : Wr (k + 1) (mm code text lim ls start pc pos handed om marks lm li fr wt none seen) r := by
  refine Wr.step ?_ (x (seen.add 15))
  rw [step_exec hp]
  unfold M.exec
  have hw : (mm code text lim ls start pc pos handed om marks lm li fr wt none seen).word 0 = 15 := h0
  rw [hw]
  rfl
theorem w_success (hp : pc < code.size) (h0 : code.getD pc 0 = 1)
    (x : ∀ seen, Wr k (mm code text lim ls start pc pos pos om marks lm li fr wt (some true) seen) r) : Wr (k + 1) (mm code text lim ls start pc pos handed om marks lm li fr wt none seen) r := by
  refine Wr.step ?_ (x (seen.add 1))
  rw [step_exec hp]
  unfold M.exec
  have hw : (mm code text lim ls start pc pos handed om marks lm li fr wt none seen).word 0 = 1 := h0
  rw [hw]
  show (if (om && ((false && pos != lim) || (false && pos == start))) = true then _ else _) = _
  rw [if_neg (by simp)]
  rfl
theorem w_at (hp : pc < code.size) (h0 : code.getD pc 0 = 6) (h1 : code.getD (pc + 1) 0 = 1) (b : Bool) (hb : (pos == 0 || text.getD (pos - 1) 0 == 10) = b)
    (x : ∀ seen, Wr k (if b then mm code text lim ls start (pc + 2) pos handed om marks lm li fr wt none seen else mm code text lim ls start pc pos handed om marks lm li fr wt (some false) seen) r) :
    Wr (k + 1) (mm code text lim ls start pc pos handed om marks lm li fr wt none seen) r := by
  refine Wr.step ?_ (x ((seen.add 6).add 44))
  rw [step_exec hp]
  unfold M.exec
  have hw : (mm code text lim ls start pc pos handed om marks lm li fr wt none seen).word 0 = 6 := h0
  rw [hw]
  have e1 : (mm code text lim ls start pc pos handed om marks lm li fr wt none (seen.add 6)).word 1 = 1 := h1
  have e2 : (mm code text lim ls start pc pos handed om marks lm li fr wt none (seen.add 6)).isAt 1 = .ok b := by rw [← hb]; rfl
  show (match (mm code text lim ls start pc pos handed om marks lm li fr wt none (seen.add 6)).isAt ((mm code text lim ls start pc pos handed om marks lm li fr wt none (seen.add 6)).word 1) with
    | .error why => _
    | .ok yes => if yes = true then mm code text lim ls start (pc + 2) pos handed om marks lm li fr wt none ((seen.add 6).add (43 + (mm code text lim ls start pc pos handed om marks lm li fr wt none (seen.add 6)).word 1))
        else mm code text lim ls start pc pos handed om marks lm li fr wt (some false) ((seen.add 6).add (43 + (mm code text lim ls start pc pos handed om marks lm li fr wt none (seen.add 6)).word 1))) = _
  rw [e1, e2]
end
end Mine

/- S3 -/
namespace Mine
open Sre

/-- what is kept where no loop is open -/
abbrev kp (lm li : Int) : Sre.Kept := { lastmark := lm, lastindex := li, whole := false, marks := #[] }
abbrev fm (w : Wait) (pc pos : Nat) (om : Bool) (count : Int) (kt : Sre.Kept) : Sre.Frame := { wait := w, pc, pos, outermost := om, count, kept := kt }

section
variable {code text : Array Nat} {lim ls start pc pos handed : Nat} {om : Bool} {marks : Array (Option Nat)} {lm li : Int} {fr : List Sre.Frame} {wt : Nat} {an : Option Bool} {seen : Sre.Seen} {k : Nat} {r : Res}

theorem attempt_eq {m : M} {f : Sre.Frame} {t fro : Nat} {o : Bool} (hw : m.weight + 1 + f.kept.marks.size ≤ 16777216) :
    m.attempt f t fro o = { m with frames := f :: m.frames, weight := m.weight + 1 + f.kept.marks.size, pc := t, pos := fro, handed := fro, outermost := o } := by
  unfold M.attempt
  rw [if_neg (by omega)]

/-- a branch: the first way is tried -/
theorem w_branch (hp : pc < code.size) (h0 : code.getD pc 0 = 7) (hn : code.getD (pc + 1) 0 ≠ 0) (hw : wt < 16777216)
    (x : ∀ seen, Wr k (mm code text lim ls start (pc + 2) pos pos om marks lm li (fm .nextBranch (pc + 1) pos om 0 (kp lm li) :: fr) (wt + 1) none seen) r) :
    Wr (k + 1) (mm code text lim ls start pc pos handed om marks lm li fr wt none seen) r := by
  refine Wr.step ?_ (x (seen.add 7))
  rw [step_exec hp]
  unfold M.exec
  have hw0 : (mm code text lim ls start pc pos handed om marks lm li fr wt none seen).word 0 = 7 := h0
  rw [hw0]
  show M.alternative (mm code text lim ls start pc pos handed om marks lm li fr wt none (seen.add 7)) (pc + 1) (kp lm li) = _
  unfold M.alternative
  rw [if_neg (by simpa using hn)]
  rw [attempt_eq (by show wt + 1 + 0 ≤ _; omega)]
  rfl
/-- the branch's next way -/
theorem w_branch_next {p : Nat} {a b : Int} {pos' : Nat} {om' : Bool} (hn : code.getD (p + code.getD p 0) 0 ≠ 0) (hw : wt < 16777216)
    (x : ∀ seen, Wr k (mm code text lim ls start (p + code.getD p 0 + 1) pos' pos' om' marks a b (fm .nextBranch (p + code.getD p 0) pos' om' 0 (kp a b) :: fr) (wt + 1) none seen) r) :
    Wr (k + 1) (mm code text lim ls start pc pos handed om marks lm li (fm .nextBranch p pos' om' 0 (kp a b) :: fr) (wt + 1) (some false) seen) r := by
  refine Wr.step ?_ (x seen)
  show M.alternative (mm code text lim ls start p pos' handed om' marks a b fr (wt + 1 - (1 + 0)) none seen) (p + code.getD p 0) (kp a b) = _
  unfold M.alternative
  rw [if_neg (by simpa using hn)]
  rw [attempt_eq (by show (wt + 1 - (1 + 0)) + 1 + 0 ≤ _; omega)]
  show mm _ _ _ _ _ _ _ _ _ _ _ _ _ (wt + 1 - (1 + 0) + 1 + 0) _ _ = _
  rw [show wt + 1 - (1 + 0) + 1 + 0 = wt + 1 by omega]
  rfl
theorem w_branch_yes {p pos' : Nat} {om' : Bool} {c : Int} {kt : Sre.Kept} (hk : kt.marks = #[])
    (x : ∀ seen, Wr k (mm code text lim ls start p pos' handed om' marks lm li fr wt (some true) seen) r) :
    Wr (k + 1) (mm code text lim ls start pc pos handed om marks lm li (fm .nextBranch p pos' om' c kt :: fr) (wt + 1) (some true) seen) r := by
  refine Wr.step ?_ (x seen)
  show mm code text lim ls start p pos' handed om' marks lm li fr (wt + 1 - (1 + kt.marks.size)) (some true) seen = _
  rw [hk]
  rfl
theorem w_start_yes {p pos' : Nat} {om' : Bool} {c : Int} {kt : Sre.Kept} (hk : kt.marks = #[])
    (x : ∀ seen, Wr k (mm code text lim ls start p pos' handed om' marks lm li fr wt (some true) seen) r) :
    Wr (k + 1) (mm code text lim ls start pc pos handed om marks lm li (fm .nextStart p pos' om' c kt :: fr) (wt + 1) (some true) seen) r := by
  refine Wr.step ?_ (x seen)
  show mm code text lim ls start p pos' handed om' marks lm li fr (wt + 1 - (1 + kt.marks.size)) (some true) seen = _
  rw [hk]
  rfl
theorem w_start_last {p pos' : Nat} {om' : Bool} (hl : ls ≤ pos')
    (x : ∀ seen, Wr k (mm code text lim ls start p pos' handed om' marks lm li fr wt (some false) seen) r) :
    Wr (k + 1) (mm code text lim ls start pc pos handed om marks lm li (fm .nextStart p pos' om' 0 {} :: fr) (wt + 1) (some false) seen) r := by
  refine Wr.step ?_ (x seen)
  show (if pos' < ls then _ else mm code text lim ls start p pos' handed om' marks lm li fr (wt + 1 - (1 + 0)) (some false) seen) = _
  rw [if_neg (by omega)]
  rfl
theorem w_start_next {p pos' : Nat} {om' : Bool} (hl : pos' < ls)
    (x : ∀ seen, Wr k (M.attemptFrom (mm code text lim ls start p pos' handed om' marks lm li fr wt none seen) (pos' + 1) false) r) :
    Wr (k + 1) (mm code text lim ls start pc pos handed om marks lm li (fm .nextStart p pos' om' 0 {} :: fr) (wt + 1) (some false) seen) r := by
  refine Wr.step ?_ (x seen)
  show (if pos' < ls then M.attemptFrom (mm code text lim ls start p pos' handed om' marks lm li fr (wt + 1 - (1 + 0)) none seen) (pos' + 1) false else _) = _
  rw [if_pos hl]
  rfl
theorem attemptAt_eq {s : Nat} {b : Bool} (hw : wt < 16777216) : M.attemptAt (mm code text lim ls start pc pos handed om marks lm li fr wt none seen) s b =
    mm code text lim ls s pc s s b marks (-1) (-1) (fm .nextStart pc s b 0 {} :: fr) (wt + 1) none seen := by
  unfold M.attemptAt
  rw [attempt_eq (by show wt + 1 + 0 ≤ _; omega)]
  rfl
/-- a look ahead that must fail -/
theorem w_not (hp : pc < code.size) (h0 : code.getD pc 0 = 5) (h2 : code.getD (pc + 2) 0 = 0) (hw : wt < 16777216)
    (x : ∀ seen, Wr k (mm code text lim ls start (pc + 3) pos pos false marks lm li (fm .lookNot pc pos om 0 (kp lm li) :: fr) (wt + 1) none seen) r) :
    Wr (k + 1) (mm code text lim ls start pc pos handed om marks lm li fr wt none seen) r := by
  refine Wr.step ?_ (x (seen.add 5))
  rw [step_exec hp]
  unfold M.exec
  have hw0 : (mm code text lim ls start pc pos handed om marks lm li fr wt none seen).word 0 = 5 := h0
  rw [hw0]
  have e2 : (mm code text lim ls start pc pos handed om marks lm li fr wt none (seen.add 5)).word 2 = 0 := h2
  show (if pos < (mm code text lim ls start pc pos handed om marks lm li fr wt none (seen.add 5)).word 2 then _ else
    M.attempt (mm code text lim ls start pc pos handed om marks lm li fr wt none (seen.add 5)) (fm .lookNot pc pos om 0 (kp lm li)) (pc + 3) (pos - (mm code text lim ls start pc pos handed om marks lm li fr wt none (seen.add 5)).word 2) false) = _
  rw [e2, if_neg (by omega), attempt_eq (by show wt + 1 + 0 ≤ _; omega)]
  rfl
theorem w_not_yes {p pos' : Nat} {om' : Bool} {c : Int} {kt : Sre.Kept} (hk : kt.marks = #[])
    (x : ∀ seen, Wr k (mm code text lim ls start p pos' handed om' marks lm li fr wt (some false) seen) r) :
    Wr (k + 1) (mm code text lim ls start pc pos handed om marks lm li (fm .lookNot p pos' om' c kt :: fr) (wt + 1) (some true) seen) r := by
  refine Wr.step ?_ (x seen)
  show mm code text lim ls start p pos' handed om' marks lm li fr (wt + 1 - (1 + kt.marks.size)) (some false) seen = _
  rw [hk]
  rfl
theorem w_not_no {p pos' : Nat} {om' : Bool} {a b : Int}
    (x : ∀ seen, Wr k (mm code text lim ls start (p + 1 + code.getD (p + 1) 0) pos' handed om' marks a b fr wt none seen) r) :
    Wr (k + 1) (mm code text lim ls start pc pos handed om marks lm li (fm .lookNot p pos' om' 0 (kp a b) :: fr) (wt + 1) (some false) seen) r :=
  Wr.step rfl (x seen)
/-- the group's marks -/
theorem w_mark (hp : pc < code.size) (h0 : code.getD pc 0 = 17) {i : Nat} (h1 : code.getD (pc + 1) 0 = i) (hi : (i : Int) ≤ lm + 1)
    (x : ∀ seen, Wr k (mm code text lim ls start (pc + 2) pos handed om (marks.setIfInBounds i (some pos)) (max lm i) (if i % 2 == 1 then (i / 2 + 1 : Nat) else li) fr wt none seen) r) :
    Wr (k + 1) (mm code text lim ls start pc pos handed om marks lm li fr wt none seen) r := by
  refine Wr.step ?_ (x (seen.add 17))
  rw [step_exec hp]
  unfold M.exec
  have hw0 : (mm code text lim ls start pc pos handed om marks lm li fr wt none seen).word 0 = 17 := h0
  rw [hw0]
  have e1 : (mm code text lim ls start pc pos handed om marks lm li fr wt none (seen.add 17)).word 1 = i := h1
  show M.mark (mm code text lim ls start pc pos handed om marks lm li fr wt none (seen.add 17)) ((mm code text lim ls start pc pos handed om marks lm li fr wt none (seen.add 17)).word 1) = _
  rw [e1]
  unfold M.mark
  rw [if_pos (show (i : Int) ≤ lm + 1 from hi)]
/-- as many as may be of one kind of sign -/
theorem w_rep (hp : pc < code.size) (h0 : code.getD pc 0 = 24) (h2 : code.getD (pc + 2) 0 = 0) (h3 : code.getD (pc + 3) 0 = 4294967295) (hlim : lim < 4294967295) (hpl : pos ≤ lim) {n : Nat}
    (hr : ∀ seen, Sre.run code text (pc + 4) (lim - pos) pos 0 seen = .ok (n, seen)) (hw : wt < 16777216)
    (x : ∀ seen, Wr k (mm code text lim ls start (pc + 1 + code.getD (pc + 1) 0) (pos + n) (pos + n) om marks lm li (fm .giveBack pc (pos + n) om n (kp lm li) :: fr) (wt + 1) none seen) r) :
    Wr (k + 1) (mm code text lim ls start pc pos handed om marks lm li fr wt none seen) r := by
  refine Wr.step ?_ (x ((seen.add 24).add (code.getD (pc + 4) 0)))
  rw [step_exec hp]
  unfold M.exec
  have hw0 : (mm code text lim ls start pc pos handed om marks lm li fr wt none seen).word 0 = 24 := h0
  rw [hw0]
  have e2 : (mm code text lim ls start pc pos handed om marks lm li fr wt none (seen.add 24)).word 2 = 0 := h2
  have e3 : (mm code text lim ls start pc pos handed om marks lm li fr wt none (seen.add 24)).word 3 = 4294967295 := h3
  have er : min 4294967295 (((lim : Int) - pos).toNat) = lim - pos := by omega
  show (if (((mm code text lim ls start pc pos handed om marks lm li fr wt none (seen.add 24)).word 2 : Nat) : Int) > (lim : Int) - pos then _ else
    match Sre.run code text (pc + 4) (min ((mm code text lim ls start pc pos handed om marks lm li fr wt none (seen.add 24)).word 3) (((lim : Int) - pos).toNat)) pos 0 ((seen.add 24).add (code.getD (pc + 4) 0)) with
    | .error why => _
    | .ok (n, seen) => if n < (mm code text lim ls start pc pos handed om marks lm li fr wt none (seen.add 24)).word 2 then _ else _) = _
  rw [e2, e3, if_neg (by omega), er, hr]
  show (if n < (mm code text lim ls start pc pos handed om marks lm li fr wt none (seen.add 24)).word 2 then _ else
    M.attempt (mm code text lim ls start pc (pos + n) handed om marks lm li fr wt none ((seen.add 24).add (code.getD (pc + 4) 0))) (fm .giveBack pc (pos + n) om n (kp lm li)) (pc + 1 + code.getD (pc + 1) 0) (pos + n) om) = _
  rw [e2, if_neg (by omega), attempt_eq (by show wt + 1 + 0 ≤ _; omega)]
  rfl
theorem w_rep_yes {p pos' : Nat} {om' : Bool} {c : Int} {kt : Sre.Kept} (hk : kt.marks = #[])
    (x : ∀ seen, Wr k (mm code text lim ls start p pos' handed om' marks lm li fr wt (some true) seen) r) :
    Wr (k + 1) (mm code text lim ls start pc pos handed om marks lm li (fm .giveBack p pos' om' c kt :: fr) (wt + 1) (some true) seen) r := by
  refine Wr.step ?_ (x seen)
  show mm code text lim ls start p pos' handed om' marks lm li fr (wt + 1 - (1 + kt.marks.size)) (some true) seen = _
  rw [hk]
  rfl
theorem w_rep_less {p pos' : Nat} {om' : Bool} {c : Nat} {a b : Int} (h2 : code.getD (p + 2) 0 = 0) (hw : wt < 16777216)
    (x : ∀ seen, Wr k (mm code text lim ls start (p + 1 + code.getD (p + 1) 0) (pos' - 1) (pos' - 1) om' marks a b (fm .giveBack p (pos' - 1) om' c (kp a b) :: fr) (wt + 1) none seen) r) :
    Wr (k + 1) (mm code text lim ls start pc pos handed om marks lm li (fm .giveBack p pos' om' ((c : Int) + 1) (kp a b) :: fr) (wt + 1) (some false) seen) r := by
  refine Wr.step ?_ (x seen)
  have e2 : (mm code text lim ls start p pos' handed om' marks lm li fr (wt + 1 - (1 + 0)) none seen).word 2 = 0 := h2
  show (if (c : Int) + 1 - 1 < (((mm code text lim ls start p pos' handed om' marks lm li fr (wt + 1 - (1 + 0)) none seen).word 2 : Nat) : Int) then _ else
    M.attempt (mm code text lim ls start p (pos' - 1) handed om' marks a b fr (wt + 1 - (1 + 0)) none seen) (fm .giveBack p (pos' - 1) om' ((c : Int) + 1 - 1) (kp a b)) (p + 1 + code.getD (p + 1) 0) (pos' - 1) om') = _
  rw [e2, if_neg (by omega), attempt_eq (by show (wt + 1 - (1 + 0)) + 1 + 0 ≤ _; omega)]
  show mm _ _ _ _ _ _ _ _ _ _ _ _ (fm _ _ _ _ ((c : Int) + 1 - 1) _ :: _) (wt + 1 - (1 + 0) + 1 + 0) _ _ = _
  rw [show wt + 1 - (1 + 0) + 1 + 0 = wt + 1 by omega, show (c : Int) + 1 - 1 = c by omega]
theorem w_rep_none {p pos' : Nat} {om' : Bool} {a b : Int} (h2 : code.getD (p + 2) 0 = 0)
    (x : ∀ seen, Wr k (mm code text lim ls start p pos' handed om' marks a b fr wt (some false) seen) r) :
    Wr (k + 1) (mm code text lim ls start pc pos handed om marks lm li (fm .giveBack p pos' om' 0 (kp a b) :: fr) (wt + 1) (some false) seen) r := by
  refine Wr.step ?_ (x seen)
  have e2 : (mm code text lim ls start p pos' handed om' marks lm li fr (wt + 1 - (1 + 0)) none seen).word 2 = 0 := h2
  show (if (0 : Int) - 1 < (((mm code text lim ls start p pos' handed om' marks lm li fr (wt + 1 - (1 + 0)) none seen).word 2 : Nat) : Int) then
    mm code text lim ls start p pos' handed om' marks a b fr (wt + 1 - (1 + 0)) (some false) seen else M.attempt (mm code text lim ls start p (pos' - 1) handed om' marks a b fr (wt + 1 - (1 + 0)) none seen) (fm .giveBack p (pos' - 1) om' ((0 : Int) - 1) (kp a b)) (p + 1 + code.getD (p + 1) 0) (pos' - 1) om') = _
  rw [e2, if_pos (by omega)]
  rfl
end
end Mine

/- S4 -/
namespace Mine
open Sre

def code1 : Array Nat := #[14, 4, 0, 1, 1, 6, 1, 16, 46, 1]
def code2 : Array Nat := #[14, 9, 4, 1, 2, 16, 10, 16, 13, 0, 7, 7, 16, 13, 16, 10, 15, 18, 5, 16, 10, 15, 13, 11, 16, 13, 5, 5, 0, 16, 10, 1, 15, 2, 0, 1]

/-- a dot at a line's begin -/
def hit1 (text : Array Nat) (p : Nat) : Bool := (p == 0 || text.getD (p - 1) 0 == 10) && text.getD p 0 == 46
section
variable {text : Array Nat} {lim ls start pos handed : Nat} {om : Bool} {marks : Array (Option Nat)} {lm li : Int} {fr : List Sre.Frame} {wt : Nat} {seen : Sre.Seen} {k : Nat} {r : Res}

/-- where the first one stands -/
def first1 (text : Array Nat) : Nat → Nat → Option Nat
  | 0, _ => none
  | n + 1, p => if hit1 text p then some p else first1 text n (p + 1)
def res1 : Option Nat → Res
  | none => .no
  | some p => .yes p (p + 1) #[] (-1)

theorem w1_end (h : lim ≤ start) : Wr 8 (mm code1 text lim lim start 5 start start om #[] (-1) (-1) [fm .nextStart 5 start om 0 {}] 1 none seen) .no := by
  refine w_at (k := 7) (by decide) rfl rfl _ rfl fun seen => ?_
  cases (start == 0 || text.getD (start - 1) 0 == 10)
  · exact (w_start_last h fun seen => w_end_no).mono (by omega)
  · refine w_lit_no (by decide) rfl (.inl h) fun seen => ?_
    exact (w_start_last h fun seen => w_end_no).mono (by omega)
theorem w1 : ∀ (n start : Nat) (om : Bool) (seen : Sre.Seen), start + n = lim →
    Wr (4 * n + 8) (mm code1 text lim lim start 5 start start om #[] (-1) (-1) [fm .nextStart 5 start om 0 {}] 1 none seen) (res1 (first1 text n start))
  | 0, start, om, seen, h => w1_end (by omega)
  | n + 1, start, om, seen, h => by
    unfold first1
    refine w_at (k := 4 * n + 11) (by decide) rfl rfl _ rfl fun seen => ?_
    have go : ∀ (pc' pos' : Nat) seen, Wr (4 * n + 9) (mm code1 text lim lim start pc' pos' start om #[] (-1) (-1) [fm .nextStart 5 start om 0 {}] 1 (some false) seen) (res1 (first1 text n (start + 1))) := by
      intro pc' pos' seen
      refine w_start_next (by omega) fun seen => ?_
      have : M.attemptFrom (mm code1 text lim lim start 5 start start om #[] (-1) (-1) [] 0 none seen) (start + 1) false = mm code1 text lim lim (start + 1) 5 (start + 1) (start + 1) false #[] (-1) (-1) [fm .nextStart 5 (start + 1) false 0 {}] 1 none seen := by
        unfold M.attemptFrom
        show M.attemptAt _ _ _ = _
        rw [attemptAt_eq (by decide)]
      rw [this]
      exact w1 n (start + 1) false seen (by omega)
    by_cases hb : (start == 0 || text.getD (start - 1) 0 == 10) = true
    · rw [hb]
      by_cases hc : text.getD start 0 = 46
      · rw [if_pos (show hit1 text start = true by unfold hit1; rw [hb, hc]; rfl)]
        refine w_lit_ok (k := 4 * n + 10) (by decide) rfl (by omega) hc fun seen => ?_
        refine w_success (k := 4 * n + 9) (by decide) rfl fun seen => ?_
        refine (w_start_yes rfl fun seen => w_end_yes).mono (by omega)
      · rw [if_neg (show ¬ hit1 text start = true by unfold hit1; rw [hb, beq_eq_false_iff_ne.mpr hc]; decide)]
        refine w_lit_no (k := 4 * n + 10) (by decide) rfl (.inr hc) fun seen => ?_
        exact (go _ _ _).mono (by omega)
    · rw [Bool.not_eq_true] at hb
      rw [hb, if_neg (show ¬ hit1 text start = true by unfold hit1; rw [hb, Bool.false_and]; decide)]
      exact (go _ _ _).mono (by omega)
theorem search1 (hp : start ≤ lim) : Wr (4 * lim + 20) (forSearch code1 text 0 start lim false) (res1 (first1 text (lim - start) start)) := by
  unfold forSearch
  by_cases h : lim - start < 1
  · have e : lim - start = 0 := by omega
    rw [if_pos (by show (decide (start > lim) || decide (lim - start < 1)) = true; simp; omega)]
    rw [e]
    exact (w_end_no).mono (by omega)
  · rw [if_neg (by show ¬ (decide (start > lim) || decide (lim - start < 1)) = true; simp; omega)]
    have : M.attemptFrom (mm code1 text lim lim start 5 start start true #[] (-1) (-1) [] 0 none (({} : Sre.Seen).add 14)) start true = mm code1 text lim lim start 5 start start true #[] (-1) (-1) [fm .nextStart 5 start true 0 {}] 1 none (({} : Sre.Seen).add 14) := by
      unfold M.attemptFrom
      show M.attemptAt _ _ _ = _
      rw [attemptAt_eq (by decide)]
    show Wr _ (M.attemptFrom (mm code1 text lim lim start 5 start start true #[] (-1) (-1) [] 0 none (({} : Sre.Seen).add 14)) start true) _
    rw [this]
    exact (w1 _ _ _ _ (by omega)).mono (by omega)
end
end Mine

/- S5 -/
namespace Mine
open Sre

def brk (c : Nat) : Bool := c == 10 || c == 13
def len2 (text : Array Nat) (lim s : Nat) : Nat := if text.getD s 0 = 13 ∧ s + 1 < lim ∧ text.getD (s + 1) 0 = 10 then 2 else 1
def first2 (text : Array Nat) : Nat → Nat → Option Nat
  | 0, _ => none
  | n + 1, p => if brk (text.getD p 0) then some p else first2 text n (p + 1)
def res2 (text : Array Nat) (lim : Nat) : Option Nat → Res
  | none => .no
  | some p => .yes p (p + len2 text lim p) #[] (-1)

theorem inSet2 (c : Nat) (seen : Sre.Seen) : ∃ seen', inSet code2 c code2.size 5 true seen = .ok (brk c, seen') := by
  show ∃ seen', inSet code2 c 36 5 true seen = .ok (brk c, seen')
  by_cases h : c = 10
  · subst h; exact ⟨_, rfl⟩
  · have e : inSet code2 c 36 5 true seen = if (c == 10) = true then .ok (true, seen.add 16) else if (c == 13) = true then .ok (true, (seen.add 16).add 16) else .ok (false, ((seen.add 16).add 16).add 0) := rfl
    rw [e, if_neg (by simpa using h)]
    by_cases h' : c = 13
    · subst h'; exact ⟨_, rfl⟩
    · rw [if_neg (by simpa using h')]
      exact ⟨_, by unfold brk; rw [beq_eq_false_iff_ne.mpr h, beq_eq_false_iff_ne.mpr h']; rfl⟩
section
variable {text : Array Nat} {lim ls start pos handed : Nat} {om : Bool} {marks : Array (Option Nat)} {lm li : Int} {fr : List Sre.Frame} {wt : Nat} {seen : Sre.Seen} {k : Nat} {r : Res}
theorem admitted2 {m : M} (hc : m.code = code2) : ∀ (n s : Nat) (seen : Sre.Seen), s + n = m.lim → ∃ seen', M.admitted m (n + 1) s seen = .ok (first2 m.text n s, seen')
  | 0, s, seen, h => ⟨seen, by unfold M.admitted; rw [if_pos (by omega)]; rfl⟩
  | n + 1, s, seen, h => by
    obtain ⟨s1, e1⟩ := inSet2 (m.text.getD s 0) seen
    unfold M.admitted
    rw [if_neg (by omega), hc, e1]
    unfold first2
    cases hb : brk (m.text.getD s 0)
    · exact admitted2 hc n (s + 1) s1 (by omega)
    · exact ⟨s1, rfl⟩
theorem w2_hit {s : Nat} (hs : s < lim) (hb : brk (text.getD s 0) = true) : Wr 30 (mm code2 text lim ls s 10 s s om #[] (-1) (-1) [fm .nextStart 10 s om 0 {}] 1 none seen) (.yes s (s + len2 text lim s) #[] (-1)) := by
  refine w_branch (k := 29) (by decide) rfl (by decide) (by decide) fun seen => ?_
  have hd : text.getD s 0 = 10 ∨ text.getD s 0 = 13 := by unfold brk at hb; simpa using hb
  have fin : ∀ (p q h1 h2 : Nat) (o1 o2 : Bool) (seen : Sre.Seen) (h' : Nat), Wr 6 (mm code2 text lim ls s 35 q h' o1 #[] (-1) (-1) (fm .nextBranch p s o2 0 (kp (-1) (-1)) :: [fm .nextStart 10 s om 0 {}]) 2 none seen) (.yes s q #[] (-1)) := by
    intro p q h1 h2 o1 o2 seen h'
    refine w_success (k := 5) (by decide) rfl fun seen => ?_
    refine w_branch_yes (k := 4) rfl fun seen => ?_
    refine w_start_yes (k := 3) rfl fun seen => ?_
    exact w_end_yes.mono (by omega)
  rcases hd with hd | hd
  · have hl : len2 text lim s = 1 := by unfold len2; rw [if_neg (by rw [hd]; rintro ⟨h, _⟩; cases h)]
    rw [hl]
    refine w_lit_no (k := 28) (by decide) rfl (.inr (by rw [hd]; decide)) fun seen => ?_
    refine w_branch_next (k := 27) (by decide) (by decide) fun seen => ?_
    refine w_lit_ok (k := 26) (by decide) rfl hs hd fun seen => ?_
    refine w_jump (k := 25) (by decide) rfl fun seen => ?_
    exact (fin _ _ 0 0 _ _ _ _).mono (by omega)
  · by_cases hn : s + 1 < lim ∧ text.getD (s + 1) 0 = 10
    · have hl : len2 text lim s = 2 := by unfold len2; rw [if_pos ⟨hd, hn⟩]
      rw [hl]
      refine w_lit_ok (k := 28) (by decide) rfl hs hd fun seen => ?_
      refine w_lit_ok (k := 27) (by decide) rfl hn.1 hn.2 fun seen => ?_
      refine w_jump (k := 26) (by decide) rfl fun seen => ?_
      exact (fin _ _ 0 0 _ _ _ _).mono (by omega)
    · have hl : len2 text lim s = 1 := by unfold len2; rw [if_neg (fun z => hn z.2)]
      have hn' : lim ≤ s + 1 ∨ text.getD (s + 1) 0 ≠ 10 := by
        by_cases q : s + 1 < lim
        · exact .inr fun z => hn ⟨q, z⟩
        · exact .inl (by omega)
      rw [hl]
      refine w_lit_ok (k := 28) (by decide) rfl hs hd fun seen => ?_
      refine w_lit_no (k := 27) (by decide) rfl hn' fun seen => ?_
      refine w_branch_next (k := 26) (by decide) (by decide) fun seen => ?_
      refine w_lit_no (k := 25) (by decide) rfl (.inr (by rw [hd]; decide)) fun seen => ?_
      refine w_branch_next (k := 24) (by decide) (by decide) fun seen => ?_
      refine w_lit_ok (k := 23) (by decide) rfl hs hd fun seen => ?_
      refine w_not (k := 22) (by decide) rfl rfl (by decide) fun seen => ?_
      refine w_lit_no (k := 21) (by decide) rfl hn' fun seen => ?_
      refine w_not_no (k := 20) fun seen => ?_
      refine w_jump (k := 19) (by decide) rfl fun seen => ?_
      exact (fin _ _ 0 0 _ _ _ _).mono (by omega)
theorem first2_lt : ∀ (n p q : Nat), first2 text n p = some q → p ≤ q ∧ q < p + n ∧ brk (text.getD q 0) = true
  | 0, p, q, h => nomatch h
  | n + 1, p, q, h => by
    unfold first2 at h
    by_cases hb : brk (text.getD p 0) = true
    · rw [if_pos hb] at h
      cases h
      exact ⟨by omega, by omega, hb⟩
    · rw [if_neg hb] at h
      have := first2_lt n (p + 1) q h
      exact ⟨by omega, by omega, this.2.2⟩
theorem search2 (hp : start ≤ lim) : Wr 40 (forSearch code2 text 0 start lim false) (res2 text lim (first2 text (lim - start) start)) := by
  unfold forSearch
  by_cases h : lim - start < 1
  · have e : lim - start = 0 := by omega
    rw [if_pos (by show (decide (start > lim) || decide (lim - start < 1)) = true; simp; omega)]
    rw [e]
    exact (w_end_no).mono (by omega)
  · rw [if_neg (by show ¬ (decide (start > lim) || decide (lim - start < 1)) = true; simp; omega)]
    show Wr _ (M.attemptFrom (mm code2 text lim lim start 10 start start true #[] (-1) (-1) [] 0 none (({} : Sre.Seen).add 14)) start true) _
    obtain ⟨s1, e1⟩ := admitted2 (m := mm code2 text lim lim start 10 start start true #[] (-1) (-1) [] 0 none (({} : Sre.Seen).add 14)) rfl (lim - start) start (({} : Sre.Seen).add 14) (by show start + (lim - start) = lim; omega)
    have e2 : lim + 1 - start = lim - start + 1 := by omega
    unfold M.attemptFrom
    show Wr _ (match M.admitted (mm code2 text lim lim start 10 start start true #[] (-1) (-1) [] 0 none (({} : Sre.Seen).add 14)) (lim + 1 - start) start (({} : Sre.Seen).add 14) with
      | .ok (some s, seen) => M.attemptAt (mm code2 text lim lim start 10 start start true #[] (-1) (-1) [] 0 none seen) s true
      | .ok (none, seen) => M.say (mm code2 text lim lim start 10 start start true #[] (-1) (-1) [] 0 none seen) false
      | .error why => _) _
    rw [e2, e1]
    cases hf : first2 text (lim - start) start with
    | none =>
      show Wr _ (M.say _ _) _
      exact (w_end_no).mono (by omega)
    | some s =>
      have hq := first2_lt _ _ _ hf
      show Wr _ (M.attemptAt _ _ _) (.yes s (s + len2 text lim s) #[] (-1))
      rw [attemptAt_eq (by decide)]
      exact (w2_hit (by omega) hq.2.2).mono (by omega)
end
end Mine

/- S6 -/
namespace Mine
open Sre

def codeF : Array Nat := #[14, 4, 0, 8, 4294967295, 24, 5, 0, 4294967295, 2, 1, 16, 70, 16, 76, 16, 65, 16, 71, 16, 83, 16, 32, 16, 40, 17, 0, 24, 6, 0, 4294967295, 20, 41, 1, 17, 1, 16, 41, 1]
def flg : List Nat := [70, 76, 65, 71, 83, 32, 40]
def litsAt (text : Array Nat) (lim : Nat) : Nat → List Nat → Bool
  | _, [] => true
  | q, c :: cs => decide (q < lim) && (text.getD q 0 == c && litsAt text lim (q + 1) cs)
def Lits (code : Array Nat) : Nat → List Nat → Prop
  | _, [] => True
  | pc, c :: cs => pc < code.size ∧ code.getD pc 0 = 16 ∧ code.getD (pc + 1) 0 = c ∧ Lits code (pc + 2) cs
section
variable {code text : Array Nat} {lim ls start pc pos handed : Nat} {om : Bool} {marks : Array (Option Nat)} {lm li : Int} {fr : List Sre.Frame} {wt : Nat} {seen : Sre.Seen} {k : Nat} {r : Res}
theorem w_lits_ok : ∀ (cs : List Nat) (pc pos : Nat) (seen : Sre.Seen), Lits code pc cs → litsAt text lim pos cs = true →
    (∀ seen, Wr k (mm code text lim ls start (pc + 2 * cs.length) (pos + cs.length) handed om marks lm li fr wt none seen) r) →
    Wr (k + cs.length) (mm code text lim ls start pc pos handed om marks lm li fr wt none seen) r
  | [], pc, pos, seen, _, _, x => x seen
  | c :: cs, pc, pos, seen, h, hl, x => by
    obtain ⟨h1, h2, h3, h4⟩ := h
    unfold litsAt at hl
    simp only [Bool.and_eq_true, decide_eq_true_eq, beq_iff_eq] at hl
    refine w_lit_ok (k := k + cs.length) h1 h2 hl.1 (hl.2.1.trans h3.symm) fun seen => ?_
    refine w_lits_ok cs (pc + 2) (pos + 1) seen h4 hl.2.2 fun seen => ?_
    have := x seen
    rw [show pc + 2 + 2 * cs.length = pc + 2 * (c :: cs).length by simp; omega, show pos + 1 + cs.length = pos + (c :: cs).length by simp; omega]
    exact this
theorem w_lits_no : ∀ (cs : List Nat) (pc pos : Nat) (seen : Sre.Seen), Lits code pc cs → litsAt text lim pos cs = false →
    (∀ pc pos seen, Wr k (mm code text lim ls start pc pos handed om marks lm li fr wt (some false) seen) r) →
    Wr (k + cs.length) (mm code text lim ls start pc pos handed om marks lm li fr wt none seen) r
  | [], pc, pos, seen, _, h, x => nomatch h
  | c :: cs, pc, pos, seen, h, hl, x => by
    obtain ⟨h1, h2, h3, h4⟩ := h
    by_cases q : pos < lim ∧ text.getD pos 0 = c
    · unfold litsAt at hl
      rw [decide_eq_true q.1, q.2, beq_self_eq_true, Bool.true_and, Bool.true_and] at hl
      refine w_lit_ok (k := k + cs.length) h1 h2 q.1 (q.2.trans h3.symm) fun seen => ?_
      exact w_lits_no cs (pc + 2) (pos + 1) seen h4 hl x
    · refine (w_lit_no (k := k) h1 h2 ?_ fun seen => x _ _ seen).mono (by simp)
      rw [h3]
      by_cases z : pos < lim
      · exact .inr fun y => q ⟨z, y⟩
      · exact .inl (by omega)
theorem run_eq {i : Nat} {acc : Nat → Bool} (ha : ∀ c seen, accepts code i c seen = .ok (acc c, seen)) : ∀ (m n p found : Nat) (seen : Sre.Seen),
    (∀ j, j < m → acc (text.getD (p + j) 0) = true) → (m = n ∨ m < n ∧ acc (text.getD (p + m) 0) = false) → Sre.run code text i n p found seen = .ok (found + m, seen)
  | 0, 0, p, found, seen, h, e => rfl
  | 0, n + 1, p, found, seen, h, e => by
    have e' : acc (text.getD p 0) = false := by rcases e with z | z; cases z; exact z.2
    show (do let (yes, seen) ← accepts code i (text.getD p 0) seen; if yes then Sre.run code text i n (p + 1) (found + 1) seen else pure (found, seen)) = _
    rw [ha, e']
    rfl
  | m + 1, 0, p, found, seen, h, e => by omega
  | m + 1, n + 1, p, found, seen, h, e => by
    show (do let (yes, seen) ← accepts code i (text.getD p 0) seen; if yes then Sre.run code text i n (p + 1) (found + 1) seen else pure (found, seen)) = _
    rw [ha, show acc (text.getD p 0) = true from h 0 (by omega)]
    have := run_eq ha m n (p + 1) (found + 1) seen (fun j hj => by have := h (j + 1) (by omega); rwa [show p + (j + 1) = p + 1 + j by omega] at this)
      (by rcases e with z | z
          · exact .inl (by omega)
          · refine .inr ⟨by omega, ?_⟩
            have := z.2
            rwa [show p + (m + 1) = p + 1 + m by omega] at this)
    show Sre.run code text i n (p + 1) (found + 1) seen = _
    rw [this, show found + 1 + m = found + (m + 1) by omega]
end
section
variable {text : Array Nat} {lim : Nat}
theorem litsF : Lits codeF 11 flg := ⟨by decide, rfl, rfl, by decide, rfl, rfl, by decide, rfl, rfl, by decide, rfl, rfl, by decide, rfl, rfl, by decide, rfl, rfl, by decide, rfl, rfl, trivial⟩

/-- the place where it holds -/
theorem wF_hit {p m : Nat} {seen : Sre.Seen} (hlim : lim < 4294967295) (hp : litsAt text lim p flg = true) (hm : ∀ j, j < m → text.getD (p + 7 + j) 0 ≠ 41) (hl : p + 7 + m < lim) (he : text.getD (p + 7 + m) 0 = 41) :
    Wr 20 (mm codeF text lim 0 0 11 p p true #[none, none] (-1) (-1) [fm .giveBack 5 p true (p : Nat) (kp (-1) (-1))] 1 none seen) (.yes 0 (p + 7 + m + 1) #[some (p + 7), some (p + 7 + m)] 1) := by
  refine w_lits_ok (k := 13) flg 11 p seen litsF hp fun seen => ?_
  refine w_mark (k := 12) (i := 0) (by decide) rfl rfl (by decide) fun seen => ?_
  refine w_rep (k := 11) (n := m) (by decide) rfl rfl rfl hlim (by show p + 7 ≤ lim; omega) (fun seen => ?_) (by decide) fun seen => ?_
  · have := run_eq (code := codeF) (text := text) (i := 31) (acc := fun c => c != 41) (fun c seen => accepts_notlit rfl) m (lim - (p + 7)) (p + 7) 0 seen (fun j hj => by simpa using hm j hj) (.inr ⟨by omega, by rw [he]; rfl⟩)
    rw [Nat.zero_add] at this
    exact this
  refine w_mark (k := 10) (i := 1) (by decide) rfl rfl (by decide) fun seen => ?_
  refine w_lit_ok (k := 9) (by decide) rfl hl he fun seen => ?_
  refine w_success (k := 8) (by decide) rfl fun seen => ?_
  refine w_rep_yes (k := 7) rfl fun seen => ?_
  refine w_rep_yes (k := 6) rfl fun seen => ?_
  exact w_end_yes.mono (by omega)
theorem wF_down {p : Nat} {r : Res} {k : Nat} (x : ∀ seen, Wr k (mm codeF text lim 0 0 11 p p true #[none, none] (-1) (-1) [fm .giveBack 5 p true (p : Nat) (kp (-1) (-1))] 1 none seen) r) :
    ∀ (c : Nat) (seen : Sre.Seen), (∀ q, p < q → q ≤ p + c → litsAt text lim q flg = false) →
    Wr (k + 8 * c) (mm codeF text lim 0 0 11 (p + c) (p + c) true #[none, none] (-1) (-1) [fm .giveBack 5 (p + c) true ((p + c : Nat) : Int) (kp (-1) (-1))] 1 none seen) r
  | 0, seen, _ => x seen
  | c + 1, seen, h => by
    refine w_lits_no (k := k + 8 * c + 1) flg 11 _ seen litsF (h _ (by omega) (by omega)) fun pc pos seen => ?_
    have e : ((p + (c + 1) : Nat) : Int) = ((p + c : Nat) : Int) + 1 := by omega
    rw [e]
    refine w_rep_less rfl (by decide) fun seen => ?_
    rw [show p + (c + 1) - 1 = p + c by omega]
    exact wF_down x c seen fun q a b => h q a (by omega)
/-- a line without it -/
theorem wF_none {seen : Sre.Seen} (h0 : litsAt text lim 0 flg = false) :
    Wr 20 (mm codeF text lim 0 0 11 0 0 true #[none, none] (-1) (-1) [fm .giveBack 5 0 true ((0 : Nat) : Int) (kp (-1) (-1))] 1 none seen) .no := by
  refine w_lits_no (k := 13) flg 11 _ seen litsF h0 fun pc pos seen => ?_
  exact (w_rep_none (k := 1) rfl fun seen => w_end_no).mono (by omega)

theorem matchF_go {L : Nat} {r : Res} {k : Nat} (hlim : lim < 4294967295) (h8 : 8 ≤ lim) (hL : ∀ j, j < L → text.getD j 0 ≠ 10) (hE : L = lim ∨ L < lim ∧ text.getD L 0 = 10)
    (x : ∀ seen, Wr k (mm codeF text lim 0 0 11 L L true #[none, none] (-1) (-1) [fm .giveBack 5 L true (L : Nat) (kp (-1) (-1))] 1 none seen) r) :
    Wr (k + 1) (forMatch codeF text 1 0 lim false false) r := by
  unfold forMatch
  rw [if_neg (by show ¬ ((8 != 0 && decide (0 ≤ lim) && decide (lim - 0 < 8)) = true); simp; omega)]
  show Wr (k + 1) (mm codeF text lim 0 0 5 0 0 true #[none, none] (-1) (-1) [] 0 none (({} : Sre.Seen).add 14)) r
  refine w_rep (n := L) (by decide) rfl rfl rfl hlim (by omega) (fun seen => ?_) (by decide) fun seen => ?_
  · have := run_eq (code := codeF) (text := text) (i := 9) (acc := fun c => c != 10) (fun c seen => accepts_any rfl) L (lim - 0) 0 0 seen (fun j hj => by rw [Nat.zero_add]; simpa using hL j hj)
      (by rcases hE with z | z
          · exact .inl (by omega)
          · exact .inr ⟨by omega, by rw [Nat.zero_add, z.2]; rfl⟩)
    rw [Nat.zero_add] at this
    exact this
  · rw [Nat.zero_add]
    exact x seen
theorem matchF {L p m : Nat} (hlim : lim < 4294967295) (h8 : 8 ≤ lim) (hL : ∀ j, j < L → text.getD j 0 ≠ 10) (hE : L = lim ∨ L < lim ∧ text.getD L 0 = 10) (hpL : p ≤ L)
    (hp : litsAt text lim p flg = true) (hq : ∀ q, p < q → q ≤ L → litsAt text lim q flg = false)
    (hm : ∀ j, j < m → text.getD (p + 7 + j) 0 ≠ 41) (hl : p + 7 + m < lim) (he : text.getD (p + 7 + m) 0 = 41) :
    Wr (21 + 8 * L) (forMatch codeF text 1 0 lim false false) (.yes 0 (p + 7 + m + 1) #[some (p + 7), some (p + 7 + m)] 1) := by
  refine (matchF_go (k := 20 + 8 * (L - p)) hlim h8 hL hE fun seen => ?_).mono (by omega)
  have := wF_down (p := p) (k := 20) (text := text) (lim := lim) (fun seen => wF_hit hlim hp hm hl he) (L - p) seen (fun q a b => hq q a (by omega))
  rwa [show p + (L - p) = L by omega] at this
theorem matchF_no {L : Nat} (hlim : lim < 4294967295) (h8 : 8 ≤ lim) (hL : ∀ j, j < L → text.getD j 0 ≠ 10) (hE : L = lim ∨ L < lim ∧ text.getD L 0 = 10)
    (hq : ∀ q, q ≤ L → litsAt text lim q flg = false) : Wr (21 + 8 * L) (forMatch codeF text 1 0 lim false false) .no := by
  refine (matchF_go (k := 20 + 8 * L) hlim h8 hL hE fun seen => ?_).mono (by omega)
  have := wF_down (p := 0) (k := 20) (text := text) (lim := lim) (r := .no) (fun seen => wF_none (hq 0 (by omega))) L seen (fun q a b => hq q (by omega))
  rwa [Nat.zero_add] at this
end
end Mine

/- S7 -/
namespace Mine
namespace FR
theorem plainAttrs_pat : PlainAttrs "re.Pattern" := by
  refine ⟨⟨"object.__getattribute__", by rw [typeLookup_type, builtinLookup_eq_fast]; kernel_rfl, by decide +kernel⟩, by rw [typeLookup_type, builtinLookup_eq_fast]; kernel_rfl⟩
theorem plainAttrs_match : PlainAttrs "re.Match" := by
  refine ⟨⟨"object.__getattribute__", by rw [typeLookup_type, builtinLookup_eq_fast]; kernel_rfl, by decide +kernel⟩, by rw [typeLookup_type, builtinLookup_eq_fast]; kernel_rfl⟩
theorem slot_sub : Slot "re.Pattern" "sub" "re.Pattern.sub" :=
  .of (owner := "re.Pattern") (n := "sub") (by rw [typeLookup_type, builtinLookup_eq_fast]; kernel_rfl) (by decide +kernel) (by decide +kernel) (by decide +kernel)
    (by first | exact .inl (by decide +kernel) | exact .inr (by decide +kernel)) (by rw [isSubtype_type]; kernel_rfl)
theorem slot_match : Slot "re.Pattern" "match" "re.Pattern.match" :=
  .of (owner := "re.Pattern") (n := "match") (by rw [typeLookup_type, builtinLookup_eq_fast]; kernel_rfl) (by decide +kernel) (by decide +kernel) (by decide +kernel)
    (by first | exact .inl (by decide +kernel) | exact .inr (by decide +kernel)) (by rw [isSubtype_type]; kernel_rfl)
theorem slot_group : Slot "re.Match" "group" "re.Match.group" :=
  .of (owner := "re.Match") (n := "group") (by rw [typeLookup_type, builtinLookup_eq_fast]; kernel_rfl) (by decide +kernel) (by decide +kernel) (by decide +kernel)
    (by first | exact .inl (by decide +kernel) | exact .inr (by decide +kernel)) (by rw [isSubtype_type]; kernel_rfl)
theorem slot_split : Slot "bytes" "split" "bytes.split" :=
  .of (owner := "bytes") (n := "split") (by rw [typeLookup_type, builtinLookup_eq_fast]; kernel_rfl) (by decide +kernel) (by decide +kernel) (by decide +kernel)
    (by first | exact .inl (by decide +kernel) | exact .inr (by decide +kernel)) (by rw [isSubtype_type]; kernel_rfl)
theorem slot_encode : Slot "str" "encode" "str.encode" :=
  .of (owner := "str") (n := "encode") (by rw [typeLookup_type, builtinLookup_eq_fast]; kernel_rfl) (by decide +kernel) (by decide +kernel) (by decide +kernel)
    (by first | exact .inl (by decide +kernel) | exact .inr (by decide +kernel)) (by rw [isSubtype_type]; kernel_rfl)
theorem type_sub : typeOf (.builtin "re.Pattern.sub") = pure (.type "method_descriptor") := by show builtinType _ = _; rw [builtinType_eq_fast]; kernel_rfl
theorem type_match : typeOf (.builtin "re.Pattern.match") = pure (.type "method_descriptor") := by show builtinType _ = _; rw [builtinType_eq_fast]; kernel_rfl
theorem type_group : typeOf (.builtin "re.Match.group") = pure (.type "method_descriptor") := by show builtinType _ = _; rw [builtinType_eq_fast]; kernel_rfl
theorem type_split : typeOf (.builtin "bytes.split") = pure (.type "method_descriptor") := by show builtinType _ = _; rw [builtinType_eq_fast]; kernel_rfl
theorem type_encode : typeOf (.builtin "str.encode") = pure (.type "method_descriptor") := by show builtinType _ = _; rw [builtinType_eq_fast]; kernel_rfl
theorem entry_sub : entryFor table "re.Pattern.sub" = some Builtin.«re.Pattern.sub» := entryFor_of_tree (by kernel_rfl)
theorem entry_match : entryFor table "re.Pattern.match" = some Builtin.«re.Pattern.match» := entryFor_of_tree (by kernel_rfl)
theorem entry_group : entryFor table "re.Match.group" = some Builtin.«re.Match.group» := entryFor_of_tree (by kernel_rfl)
theorem entry_split : entryFor table "bytes.split" = some Builtin.«bytes.split» := entryFor_of_tree (by kernel_rfl)
theorem entry_encode : entryFor table "str.encode" = some Builtin.«str.encode» := entryFor_of_tree (by kernel_rfl)
theorem entry_loop : entryFor table "re.Pattern.sub.loop" = some Builtin.«re.Pattern.sub.loop» := entryFor_of_tree (by kernel_rfl)
theorem plain_loop : plainId "re.Pattern.sub.loop" = true := by decide +kernel
theorem args_sub (a b d : Value) : argsOk "re.Pattern.sub" ⟨[a, b, d], []⟩ := by unfold argsOk; kernel_rfl
theorem args_match (a b : Value) : argsOk "re.Pattern.match" ⟨[a, b], []⟩ := by unfold argsOk; kernel_rfl
theorem args_group (a b : Value) : argsOk "re.Match.group" ⟨[a, b], []⟩ := by unfold argsOk; kernel_rfl
theorem args_split (a : Value) : argsOk "bytes.split" ⟨[a], []⟩ := by unfold argsOk; kernel_rfl
theorem args_encode (a b : Value) : argsOk "str.encode" ⟨[a, b], []⟩ := by unfold argsOk; kernel_rfl
theorem args_decode (a b : Value) : argsOk "bytes.decode" ⟨[a, b], []⟩ := by unfold argsOk; kernel_rfl
end FR
end Mine

/- S8 -/
namespace Mine
open Builtin.Re

/-- a pattern as it lies in the heap -/
structure PatAt (h : Heap) (a : Addr) (code : Array Nat) (groups want : Nat) : Prop where
  ex : ∃ o fs ca oc its n, h.get? a = some o ∧ o.cls = .type "re.Pattern" ∧ o.dict = none ∧ o.data = .fields fs ∧ fs.getD 6 .none = rawInt want ∧ fs.getD 2 .none = rawInt groups ∧
    fs.getD 5 .none = .ref ca ∧ h.get? ca = some oc ∧ oc.data = .seq its n ∧ (its.map reRawOf).map (·.toNat) = code
theorem PatAt.keeps {h h' : Heap} {a : Addr} {code : Array Nat} {groups want : Nat} (x : PatAt h a code groups want) (k : KH h h') : PatAt h' a code groups want := by
  obtain ⟨o, fs, ca, oc, its, n, h1, h2, h3, h4, h5, h6, h7, h8, h9, h10⟩ := x.ex
  exact ⟨⟨o, fs, ca, oc, its, n, k _ _ h1, h2, h3, h4, h5, h6, h7, k _ _ h8, h9, h10⟩⟩
theorem PatAt.typeIs {s : Shared} {a : Addr} {code : Array Nat} {groups want : Nat} (x : PatAt s.heap a code groups want) : s.TypeIs (.ref a) "re.Pattern" := by
  obtain ⟨o, fs, ca, oc, its, n, h1, h2, h3, h4, h5, h6, h7, h8, h9, h10⟩ := x.ex
  exact ⟨o, h1, h2⟩
section
variable {M : Model} {A : Around} {E : Value → Shared → Prop} {s : Shared} {a : Addr} {code : Array Nat} {groups want : Nat}
theorem wp_rawItems {ca : Addr} {oc : Obj} {its : Array Value} {n : Nat} (h1 : s.heap.get? ca = some oc) (h2 : oc.data = .seq its n) {Q : Array Int → Shared → Prop} (h : Q (its.map reRawOf) s) : wpAny M A (reRawItems (.ref ca)) Q E s := by
  unfold reRawItems
  exact wpAny_bind (wpAny_seqItems h1 h2 (wpAny_pure h))
theorem wp_whole {x : Str} {t : Tok} (P : PatAt s.heap a code groups 0) {Q : ReTarget → Shared → Prop}
    (h : Q { pattern := .ref a, string := .str x t, code, text := x.cps, kind := 0, groups, pos := 0, lim := x.cps.size } s) : wpAny M A (reWholeTarget (.ref a) (.str x t)) Q E s := by
  obtain ⟨o, fs, ca, oc, its, n, h1, h2, h3, h4, h5, h6, h7, h8, h9, h10⟩ := P.ex
  unfold reWholeTarget
  refine wpAny_bind (wpAny_fieldsOf h1 h4 ?_)
  refine wpAny_bind (wpAny_of_eq (a := (x.cps, 0)) rfl ?_)
  rw [h5, h6, h7]
  show wpAny M A (do let c ← reRawItems (.ref ca); pure _) _ _ _
  refine wpAny_bind (wp_rawItems h8 h9 (wpAny_pure ?_))
  rw [h10]
  exact h
theorem wp_slice {text : Array Nat} {b e : Nat} (hz : text.size ≤ 100000) {Q : Value → Shared → Prop} (h : Q (.str ⟨text.extract b e⟩ s.toks) { s with toks := s.toks + 1 }) : wpAny M A (reSlice text 0 b e) Q E s := by
  unfold reSlice
  refine wpAny_mkStr h ?_
  show (text.extract b e).size ≤ _
  rw [Array.size_extract, sizeLine_eq]
  omega
end
end Mine

/- S9 -/
namespace Mine
open Builtin.Re

def subP (nxt : Nat → Option (Nat × Nat)) (x r : Str) : Nat → Nat → List Str
  | 0, _ => []
  | f + 1, start => match nxt start with
    | none => if start < x.cps.size then [⟨x.cps.extract start x.cps.size⟩] else []
    | some (p, q) => (if start < p then [⟨x.cps.extract start p⟩] else []) ++ r :: subP nxt x r f q
def resOf : Option (Nat × Nat) → Res
  | none => .no
  | some (p, q) => .yes p q #[] (-1)
structure Nxt (code : Array Nat) (x : Str) (nxt : Nat → Option (Nat × Nat)) : Prop where
  run : ∀ start, start ≤ x.cps.size → ∃ k, k ≤ 2 ^ 60 ∧ Wr k (Sre.forSearch code x.cps 0 start x.cps.size false) (resOf (nxt start))
  rng : ∀ start p q, start ≤ x.cps.size → nxt start = some (p, q) → start ≤ p ∧ p < q ∧ q ≤ x.cps.size

theorem strs_snoc {vs : List Value} {ys : List Str} (h : StrsAre vs ys) (y : Str) (t : Tok) : StrsAre (vs ++ [.str y t]) (ys ++ [y]) := by
  induction h with
  | nil => exact .cons y t .nil
  | cons z u r ih => exact .cons z u ih
theorem strs_len {vs : List Value} {ys : List Str} (h : StrsAre vs ys) : vs.length = ys.length := by
  induction h with
  | nil => rfl
  | cons z u r ih => simp [ih]

section
variable {prog : Program} {w : World} {A : Around} {E : Value → Shared → Prop} {s : Shared}
theorem wp_push {L : Addr} {vs : Array Value} {v : Value} (h : s.heap.PlainList L vs) (hz : vs.size ≤ 100000) {Q : Unit → Shared → Prop}
    (hQ : ∀ h', h'.PlainList L (vs.push v) → Heap.SameBut L s.heap h' → Q () { s with heap := h' }) : wpAny (model prog w) A (updateSeq L (·.push v)) Q E s := by
  obtain ⟨n, e⟩ := h
  exact wpAny_updateSeq e rfl (hQ _ ⟨_, PySem.IsL.update e _⟩ (Heap.SameBut.update ..)) (by rw [sizeLine_eq]; omega) (by rw [sizeLine_eq]; simp; omega)

theorem wp_next {code : Array Nat} {x : Str} {t : Tok} {a : Addr} {nxt : Nat → Option (Nat × Nat)} (N : Nxt code x nxt) {start : Nat} (hs : start ≤ x.cps.size) {Q : Option Sre.M → Shared → Prop}
    (h1 : nxt start = none → Q none s) (h2 : ∀ p q m, nxt start = some (p, q) → m.start = p → m.handed = q → Q (some m) s) :
    wpAny (model prog w) A (reNextFound { pattern := .ref a, string := .str x t, code, text := x.cps, kind := 0, groups := 0, pos := 0, lim := x.cps.size } start false) Q E s := by
  obtain ⟨k, hk, m', hR, hI⟩ := N.run start hs
  unfold reNextFound
  cases e : nxt start with
  | none =>
    rw [e] at hI
    have hI' : m'.outcome = some .failed := hI
    refine wp_run hR hk (.inr hI') ?_
    rw [hI']
    exact h1 e
  | some pq =>
    obtain ⟨p, q⟩ := pq
    rw [e] at hI
    obtain ⟨i1, i2, i3, i4, i5⟩ := hI
    refine wp_run hR hk (.inl i1) ?_
    rw [i1]
    exact h2 p q m' e i2 i3

theorem wp_tail {x : Str} {L : Addr} {vs : Array Value} {ys : List Str} {n : Int} {Q : Fin → Shared → Prop} (hl : s.heap.PlainList L vs) (hy : StrsAre vs.toList ys) (hx : x.cps.size ≤ 10000) (hz : (ys.map (·.length)).sum ≤ 16777216)
    (h : ∀ t' k, Q (.done (.ret (.str (Txt.join ⟨#[]⟩ ys) t'))) { s with toks := k }) : wpAny (model prog w) A (do
        let joiner ← reSlice x.cps 0 0 0
        let text ← if ((← seqItems? (.ref L)).getD #[]).isEmpty then pure joiner
          else call (.builtin "str.join") [joiner, .ref L]
        ret text) Q E s := by
  have e0 : x.cps.extract 0 0 = #[] := by simp
  refine wpAny_bind (wp_slice (by omega) ?_)
  rw [e0]
  obtain ⟨n, e⟩ := id hl
  refine wpAny_bind (wpAny_seqItems (s := { s with toks := s.toks + 1 }) e rfl ?_)
  by_cases he : vs.isEmpty = true
  · show wpAny _ _ (if vs.isEmpty = true then _ else _) _ _ _
    rw [if_pos he]
    have : ys = [] := by
      have hv : vs = #[] := by simpa using he
      subst hv
      cases hy; rfl
    subst this
    exact wpAny_bind (wpAny_pure (wpAny_pure (h _ _)))
  · show wpAny _ _ (if vs.isEmpty = true then _ else _) _ _ _
    rw [if_neg he]
    refine wpAny_bind (join_list (s := { s with toks := s.toks + 1 }) (plain_list hl) hy (by show _ + ys.length * 0 ≤ _; omega) fun t' k => ?_)
    exact wpAny_pure (h t' k)
theorem sub_loop {code : Array Nat} {x r : Str} {t u : Tok} {a L : Addr} {nxt : Nat → Option (Nat × Nat)} {h₀ : Heap} {R : Result → Shared → Prop} (N : Nxt code x nxt) (P : PatAt h₀ a code 0 0) (hL : h₀.get? L = none) (hx : x.cps.size ≤ 10000) :
    ∀ (f start : Nat) (n : Int) (s : Shared) (ys : List Str) (vs : Array Value), KH h₀ s.heap → s.heap.PlainList L vs → StrsAre vs.toList ys → start ≤ x.cps.size → x.cps.size < f + start →
      ys.length ≤ 2 * start → ((ys ++ subP nxt x r f start).map (·.length)).sum ≤ 16777216 →
      (∀ t' h' k, KH h₀ h' → R (.ok (.ret (.str (Txt.join ⟨#[]⟩ (ys ++ subP nxt x r f start)) t'))) { s with heap := h', toks := k }) →
      codeAny (model prog w) A (.builtin "re.Pattern.sub.loop" ⟨[.ref a, .str x t, .str r u, rawInt 0, rawInt 0, rawInt n, rawInt start, rawInt start, .bool false, .ref L, .bool false], []⟩) R s
  | 0, start, n, s, ys, vs, k, hl, hy, hs, hf, hn, hz, hR => by omega
  | f + 1, start, n, s, ys, vs, k, hl, hy, hs, hf, hn, hz, hR => by
    have P' := P.keeps k
    have hvs : vs.size = ys.length := by rw [← strs_len hy]; simp
    refine codeAny_builtin FR.entry_loop ?_
    show wpAny _ _ (do
      let tt ← reWholeTarget (.ref a) (.str x t)
      reLiteralCannotBeTurned (.str r u)
      match ← reNextFound tt start false with
      | some m =>
        if start < m.start then updateSeq L (·.push (← reSlice tt.text tt.kind start m.start))
        let item ← pure (.str r u)
        if item != .none then updateSeq L (·.push item)
        again (.builtin "re.Pattern.sub.loop" ⟨[.ref a, .str x t, .str r u, rawInt 0, rawInt 0, rawInt (n + 1), rawInt m.handed, rawInt m.handed, .bool (m.handed == m.start), .ref L, .bool false], []⟩)
      | none =>
        if start < tt.lim then updateSeq L (·.push (← reSlice tt.text tt.kind start tt.lim))
        let joiner ← reSlice tt.text tt.kind 0 0
        let text ← if ((← seqItems? (.ref L)).getD #[]).isEmpty then pure joiner
          else call (.builtin (if tt.kind == 0 then "str.join" else "bytes.join")) [joiner, .ref L]
        if false then ret (← holding [text] do newTuple [text, ← mkInt n]) else ret text) _ _ s
    refine wpAny_bind (wp_whole P' ?_)
    refine wpAny_bind (wpAny_of_eq rfl ?_)
    refine wpAny_bind (wp_next N hs (fun e => ?_) fun p q m e e1 e2 => ?_)
    · have hS : subP nxt x r (f + 1) start = if start < x.cps.size then [⟨x.cps.extract start x.cps.size⟩] else [] := by unfold subP; rw [e]
      rw [hS] at hR hz
      by_cases hlt : start < x.cps.size
      · rw [if_pos hlt] at hR hz
        show wpAny _ _ (if start < x.cps.size then _ else _) _ _ _
        rw [if_pos hlt]
        refine wpAny_bind (wp_slice (by show x.cps.size ≤ _; omega) ?_)
        refine wpAny_bind (wp_push (s := { s with toks := s.toks + 1 }) hl (by omega) fun h' hl' hsb => ?_)
        refine wp_tail (n := n) (s := { s with heap := h', toks := s.toks + 1 }) hl' (by rw [Array.toList_push]; exact strs_snoc hy _ _) hx hz fun t' k' => ?_
        exact hR t' h' k' fun b o eb => hsb.extBut b o (fun z => by rw [z, hL] at eb; cases eb) (k b o eb)
      · rw [if_neg hlt] at hR hz
        show wpAny _ _ (if start < x.cps.size then _ else _) _ _ _
        rw [if_neg hlt]
        rw [List.append_nil] at hR hz
        exact wp_tail (n := n) hl hy hx hz fun t' k' => hR t' _ k' k
    · subst e1 e2
      have hq := N.rng start _ _ hs e
      have hS : subP nxt x r (f + 1) start = (if start < m.start then [⟨x.cps.extract start m.start⟩] else []) ++ r :: subP nxt x r f m.handed := by conv => lhs; unfold subP; rw [e]
      have hne : (m.handed == m.start) = false := beq_eq_false_iff_ne.mpr (by omega)
      rw [hS] at hR hz
      have go : ∀ (s₁ : Shared) (ys₁ : List Str) (vs₁ : Array Value), KH h₀ s₁.heap → s₁.heap.PlainList L vs₁ → StrsAre vs₁.toList ys₁ → ys₁.length ≤ 2 * start + 1 →
          ((ys₁ ++ r :: subP nxt x r f m.handed).map (·.length)).sum ≤ 16777216 → (∀ t' h' k, KH h₀ h' → R (.ok (.ret (.str (Txt.join ⟨#[]⟩ (ys₁ ++ r :: subP nxt x r f m.handed)) t'))) { s₁ with heap := h', toks := k }) →
          wpAny (model prog w) (A.under (Code.builtin "re.Pattern.sub.loop" ⟨[.ref a, .str x t, .str r u, rawInt 0, rawInt 0, rawInt n, rawInt start, rawInt start, .bool false, .ref L, .bool false], []⟩)) (do
            updateSeq L (·.push (.str r u))
            again (.builtin "re.Pattern.sub.loop" ⟨[.ref a, .str x t, .str r u, rawInt 0, rawInt 0, rawInt (n + 1), rawInt m.handed, rawInt m.handed, .bool (m.handed == m.start), .ref L, .bool false], []⟩))
            (fun fin s' => match fin with | .done f => R (.ok f) s' | .again c' => c'.quiet = true ∧ codeAny (model prog w) A c' R s') (fun e s' => R (.error e) s') s₁ := by
        intro s₁ ys₁ vs₁ k₁ hl₁ hy₁ hn₁ hz₁ hR₁
        have hvs₁ : vs₁.size = ys₁.length := by rw [← strs_len hy₁]; simp
        refine wpAny_bind (wp_push hl₁ (by omega) fun h' hl' hsb => ?_)
        refine wpAny_pure ⟨plainId_quiet FR.plain_loop _, ?_⟩
        rw [hne]
        have kh : KH h₀ h' := fun b o eb => hsb.extBut b o (fun z => by rw [z, hL] at eb; cases eb) (k₁ b o eb)
        have ea : ys₁ ++ r :: subP nxt x r f m.handed = (ys₁ ++ [r]) ++ subP nxt x r f m.handed := by simp
        rw [ea] at hz₁ hR₁
        refine sub_loop N P hL hx f m.handed (n + 1) { s₁ with heap := h' } (ys₁ ++ [r]) _ kh hl' (by rw [Array.toList_push]; exact strs_snoc hy₁ _ _) hq.2.2 (by omega) ?_ hz₁ (fun t' h'' k' kh' => hR₁ t' h'' k' kh')
        rw [List.length_append, List.length_singleton]
        omega
      by_cases hlt : start < m.start
      · rw [if_pos hlt] at hR hz
        show wpAny _ _ (if start < m.start then _ else _) _ _ _
        rw [if_pos hlt]
        refine wpAny_bind (wp_slice (by show x.cps.size ≤ _; omega) ?_)
        refine wpAny_bind (wp_push (s := { s with toks := s.toks + 1 }) hl (by omega) fun h' hl' hsb => ?_)
        have ea : ys ++ ([⟨x.cps.extract start m.start⟩] ++ r :: subP nxt x r f m.handed) = (ys ++ [⟨x.cps.extract start m.start⟩]) ++ r :: subP nxt x r f m.handed := by simp
        rw [ea] at hR hz
        exact go { s with heap := h', toks := s.toks + 1 } _ _ (fun b o eb => hsb.extBut b o (fun z => by rw [z, hL] at eb; cases eb) (k b o eb)) hl' (by rw [Array.toList_push]; exact strs_snoc hy _ _) (by simp; omega) hz (fun t' h'' k' kh' => hR t' h'' k' kh')
      · rw [if_neg hlt] at hR hz
        show wpAny _ _ (if start < m.start then _ else _) _ _ _
        rw [if_neg hlt]
        exact go s ys vs k hl hy (by omega) hz hR
end
end Mine

/- S10 -/
namespace Mine
open Builtin.Re

theorem named_sub (a b : Value) : reNamed "re.Pattern.sub" "sub" ["repl", "string", "count"] 2 [a, b] [] = pure [some a, some b, none] := by kernel_rfl
theorem str_nocall {x : Str} {t : Tok} : specialOf (.str x t) "__call__" = pure none := by
  show typeLookup (.type "str") "__call__" = _
  rw [typeLookup_type, builtinLookup_eq_fast]; kernel_rfl
theorem lookup_str_call : typeLookup (.type "str") "__call__" = pure none := by rw [typeLookup_type, builtinLookup_eq_fast]; kernel_rfl

theorem meets_sub {code : Array Nat} {x r : Str} {t u : Tok} {a : Addr} {nxt : Nat → Option (Nat × Nat)} (N : Nxt code x nxt) (hx : x.cps.size ≤ 10000) (hr : r.cps.contains 92 = false)
    (hz : ((subP nxt x r (x.cps.size + 1) 0).map (·.length)).sum ≤ 16777216) :
    Meets (Builtin.«re.Pattern.sub» ⟨[.ref a, .str r u, .str x t], []⟩) (fun _ R s => PatAt s.heap a code 0 0 ∧
      ∀ t' h' k, KH s.heap h' → R (.ok (.ret (.str (Txt.join ⟨#[]⟩ (subP nxt x r (x.cps.size + 1) 0)) t'))) { s with heap := h', toks := k }) := by
  intro prog w A R s hS
  obtain ⟨P, h⟩ := hS
  show wpAny _ _ (reNamed "re.Pattern.sub" "sub" ["repl", "string", "count"] 2 [.str r u, .str x t] [] >>= fun z => _) _ _ s
  rw [named_sub]
  refine wpAny_bind (wpAny_pure ?_)
  show wpAny _ _ (specialOf (.str r u) "__call__" >>= fun z => _) _ _ s
  rw [str_nocall]
  refine wpAny_bind (wpAny_pure ?_)
  show wpAny _ _ (do
    let literal ← pure !r.cps.contains 92
    let (repl, way) ← if literal = true then pure (Value.str r u, (0 : Int)) else do
      let t ← reCompileTemplate (.ref a) (.str r u)
      if ← reOnlyLiteral t then pure (← field t 0, 0) else pure (t, 2)
    let _ ← holding [repl] (reWholeTarget (.ref a) (.str x t))
    if way == 1 then reNotHeld "re.Pattern.sub" (.str x t)
    again (.builtin "re.Pattern.sub.loop" ⟨[.ref a, .str x t, repl, rawInt way, rawInt 0, rawInt 0, rawInt 0, rawInt 0, .bool false, ← newList [], .bool false], []⟩)) _ _ s
  rw [hr]
  refine wpAny_bind (wpAny_pure ?_)
  refine wpAny_bind (wpAny_pure ?_)
  refine wpAny_bind (wpAny_holding (wp_whole P ?_))
  show wpAny _ _ (do let l ← newList []; again (.builtin "re.Pattern.sub.loop" ⟨[.ref a, .str x t, .str r u, rawInt 0, rawInt 0, rawInt 0, rawInt 0, rawInt 0, .bool false, l, .bool false], []⟩)) _ _ s
  refine wpAny_bind (wpAny_newList ?_)
  refine wpAny_pure ⟨plainId_quiet FR.plain_loop _, ?_⟩
  have kh : KH s.heap (s.heap.push { cls := .type "list", data := .seq ([] : List Value).toArray }) := fun b o e => Heap.get?_push_of_some _ e
  refine sub_loop N P (Heap.get?_none_of_le (Nat.le_refl _)) hx (x.cps.size + 1) 0 0 _ [] #[] kh ⟨_, Heap.get?_push_size _ rfl⟩ .nil (Nat.zero_le _) (by omega) (Nat.zero_le _) (by simpa using hz) fun t' h' k' kh' => ?_
  exact h t' h' k' kh'

section
variable {c : Cx} {A : Around} {env : Env} {ns : List Str} {vals : List (Option D)} {bad : List Addr}
theorem paired3 {bad : List Addr} {h : Heap} {vs : List Value} {d e f : D} (p : Paired (Rep bad h) vs [d, e, f]) : ∃ v u z, vs = [v, u, z] ∧ Rep bad h v d ∧ Rep bad h u e ∧ Rep bad h z f := by
  cases p with | cons a r => obtain ⟨u, z, rfl, b, c⟩ := paired2 r; exact ⟨_, u, z, rfl, a, b, c⟩
theorem bi_sub {code : Array Nat} {x r : Str} {a : Addr} {nxt : Nat → Option (Nat × Nat)} (hP : ∀ h, c.K.In h → PatAt h a code 0 0) (N : Nxt code x nxt) (hx : x.cps.size ≤ 10000) (hr : r.cps.contains 92 = false)
    (hz : ((subP nxt x r (x.cps.size + 1) 0).map (·.length)).sum ≤ 16777216) :
    Bi c A bad (.builtin "re.Pattern.sub") [.own a, .sc (.str r), .sc (.str x)] (.sc (.str (Txt.join ⟨#[]⟩ (subP nxt x r (x.cps.size + 1) 0)))) := by
  intro s vs G L p
  obtain ⟨v, u, z, rfl, h₁, h₂, h₃⟩ := paired3 p
  have h₁' : v = .ref a := h₁
  subst h₁'
  cases h₂; cases h₃
  have P := hP _ G.k
  exact call_meets FR.slot_sub P.typeIs FR.entry_sub (FR.args_sub _ _ _) (meets_sub N hx hr hz) ⟨P, fun t' h' k kh => ⟨.str _ _, h', k, rfl, kh⟩⟩
/-- a method of two arguments, the object in the written part -/
theorem ev_method2 {o e₁ e₂ : Expr} {name : Str} {apos pos : Pos} {T id : String} {d₀ d₁ d₂ d : D} (ho : Ev c A env ns vals bad o d₀)
    (hT : ∀ (s : Shared) v, Gl c s.heap → Rep bad s.heap v d₀ → s.TypeIs v T ∧ ∀ a, v = .ref a → ∃ ob, s.heap.get? a = some ob ∧ ob.dict = none) (pa : PlainAttrs T) (slot : Slot T name id)
    (hty : typeOf (.builtin id) = pure (.type "method_descriptor")) (hes : Evs c A env ns vals bad [e₁, e₂] [d₁, d₂]) (hf : Bi c A bad (.builtin id) [d₀, d₁, d₂] d)
    (hbase : attributeBase o name env (eval o env) = eval o env) (hs : starEach [e₁, e₂] env = (false, eval e₁ env) :: starEach [e₂] env)
    (hp : (backTo pos (starEach [e₂] env)).any (·.1) = false)
    (hfew : ((backTo pos (starEach [e₁, e₂] env)).all (fun x => !x.1) && (backToKw pos (keywordEach [] env)).all (fun x => x.1.isSome)
      && decide ([e₁, e₂].length + ([] : List Keyword).length + (if ([] : List Keyword).isEmpty then 0 else 1) < 30)) = true)
    (hline : (apos.endLine == pos.line) = true) :
    Ev c A env ns vals bad (.Call (.Attribute o name apos) [e₁, e₂] [] pos) d := by
  intro s G V
  refine wpAny_Call_method hbase hfew hline pa slot hty (wpAny_mono (ho s G V) (fun v s₁ q => ?_) fun _ _ x => x)
  have k := keeps_kh q.2
  obtain ⟨h1, h2⟩ := hT s₁ v (G.keeps k) q.1
  refine ⟨h1, h2, callWith_method1 (wpAny_mono (hes pos s₁ (G.keeps k) (V.keeps k)) (fun vs s₂ r => ?_) fun _ _ x => x) hs hp⟩
  have k' := keeps_kh r.2
  exact wpAny_mono (hf s₂ (v :: vs) ((G.keeps k).keeps k') ((V.live.keeps k).keeps k') (.cons (q.1.mono k'.seq) r.1)) (fun v s₃ z => ⟨z.1, keeps_trans q.2 (keeps_trans r.2 z.2)⟩) fun _ _ x => x
theorem ev_method1' {o e : Expr} {name : Str} {apos pos : Pos} {T id : String} {d₀ d₁ d : D} (ho : Ev c A env ns vals bad o d₀)
    (hT : ∀ (s : Shared) v, Gl c s.heap → Rep bad s.heap v d₀ → s.TypeIs v T ∧ ∀ a, v = .ref a → ∃ ob, s.heap.get? a = some ob ∧ ob.dict = none) (pa : PlainAttrs T) (slot : Slot T name id)
    (hty : typeOf (.builtin id) = pure (.type "method_descriptor")) (hes : Ev c A env ns vals bad e d₁) (hf : Bi c A bad (.builtin id) [d₀, d₁] d)
    (hbase : attributeBase o name env (eval o env) = eval o env) (hs : starEach [e] env = (false, eval e env) :: starEach [] env)
    (hfew : ((backTo pos (starEach [e] env)).all (fun x => !x.1) && (backToKw pos (keywordEach [] env)).all (fun x => x.1.isSome)
      && decide ([e].length + ([] : List Keyword).length + (if ([] : List Keyword).isEmpty then 0 else 1) < 30)) = true)
    (hline : (apos.endLine == pos.line) = true) :
    Ev c A env ns vals bad (.Call (.Attribute o name apos) [e] [] pos) d := by
  intro s G V
  refine wpAny_Call_method hbase hfew hline pa slot hty (wpAny_mono (ho s G V) (fun v s₁ q => ?_) fun _ _ x => x)
  have k := keeps_kh q.2
  obtain ⟨h1, h2⟩ := hT s₁ v (G.keeps k) q.1
  refine ⟨h1, h2, callWith_method1 (wpAny_mono (evs_cons hes evs_nil hs pos s₁ (G.keeps k) (V.keeps k)) (fun vs s₂ r => ?_) fun _ _ x => x) hs (by rfl)⟩
  have k' := keeps_kh r.2
  exact wpAny_mono (hf s₂ (v :: vs) ((G.keeps k).keeps k') ((V.live.keeps k).keeps k') (.cons (q.1.mono k'.seq) r.1)) (fun v s₃ z => ⟨z.1, keeps_trans q.2 (keeps_trans r.2 z.2)⟩) fun _ _ x => x
theorem hT_pat {a : Addr} {code : Array Nat} {g w : Nat} (hP : ∀ h, c.K.In h → PatAt h a code g w) (s : Shared) (v : Value) (G : Gl c s.heap) (h : Rep bad s.heap v (.own a)) :
    s.TypeIs v "re.Pattern" ∧ ∀ a, v = .ref a → ∃ ob, s.heap.get? a = some ob ∧ ob.dict = none := by
  have h' : v = .ref a := h
  subst h'
  have P := hP _ G.k
  refine ⟨P.typeIs, fun b e => ?_⟩
  cases e
  obtain ⟨o, fs, ca, oc, its, n, h1, h2, h3, _⟩ := P.ex
  exact ⟨o, h1, h3⟩
/-- a global of the text -/
theorem ev_global {x : Str} {p : Pos} {v : Value} {d : D} (hx : env.kindOf x = some .globalImplicit) (hg : c.mg x = some v) (hb : (x == ("__debug__" : Str)) = false) (hd : ∀ h, Rep bad h v d) :
    Ev c A env ns vals bad (.Name x p) d := by
  intro s G V
  exact Calls.Name_function_global V.fn hx (Calls.loadGlobal_global (mg := c.mg) (V.gl ▸ G.g) hg ⟨hd _, keeps_refl s⟩) hb
end
end Mine

/- S11 -/
namespace Mine
open Builtin.Re

def nxt1 (x : Str) (start : Nat) : Option (Nat × Nat) := (first1 x.cps (x.cps.size - start) start).map fun p => (p, p + 1)
def nxt2 (x : Str) (start : Nat) : Option (Nat × Nat) := (first2 x.cps (x.cps.size - start) start).map fun p => (p, p + len2 x.cps x.cps.size p)

theorem first1_lt {text : Array Nat} : ∀ (n p q : Nat), first1 text n p = some q → p ≤ q ∧ q < p + n ∧ hit1 text q = true
  | 0, p, q, h => nomatch h
  | n + 1, p, q, h => by
    unfold first1 at h
    by_cases hb : hit1 text p = true
    · rw [if_pos hb] at h
      cases h
      exact ⟨by omega, by omega, hb⟩
    · rw [if_neg hb] at h
      have := first1_lt n (p + 1) q h
      exact ⟨by omega, by omega, this.2.2⟩
theorem len2_rng (text : Array Nat) (lim p : Nat) (hp : p < lim) : 0 < len2 text lim p ∧ p + len2 text lim p ≤ lim := by
  unfold len2
  split
  · rename_i h; exact ⟨by decide, by omega⟩
  · exact ⟨by decide, by omega⟩
theorem nxt1_ok {x : Str} (hx : x.cps.size ≤ 10000) : Nxt code1 x (nxt1 x) := by
  refine ⟨fun start hs => ⟨4 * x.cps.size + 20, by omega, ?_⟩, fun start p q hs h => ?_⟩
  · have := search1 (text := x.cps) hs
    unfold nxt1
    cases e : first1 x.cps (x.cps.size - start) start with
    | none => rw [e] at this; exact this
    | some p => rw [e] at this; exact this
  · unfold nxt1 at h
    cases e : first1 x.cps (x.cps.size - start) start with
    | none => rw [e] at h; cases h
    | some p' =>
      rw [e] at h; cases h
      have := first1_lt _ _ _ e
      exact ⟨this.1, by omega, by omega⟩
theorem nxt2_ok {x : Str} (hx : x.cps.size ≤ 10000) : Nxt code2 x (nxt2 x) := by
  refine ⟨fun start hs => ⟨40, by decide, ?_⟩, fun start p q hs h => ?_⟩
  · have := search2 (text := x.cps) hs
    unfold nxt2
    cases e : first2 x.cps (x.cps.size - start) start with
    | none => rw [e] at this; exact this
    | some p => rw [e] at this; exact this
  · unfold nxt2 at h
    cases e : first2 x.cps (x.cps.size - start) start with
    | none => rw [e] at h; cases h
    | some p' =>
      rw [e] at h
      have hpq : p' = p ∧ p' + len2 x.cps x.cps.size p' = q := by simpa using h
      obtain ⟨rfl, rfl⟩ := hpq
      have := first2_lt _ _ _ e
      have l := len2_rng x.cps x.cps.size p' (by omega)
      exact ⟨this.1, by omega, by omega⟩

/-! the texts -/
def flat (ys : List Str) : List Nat := (ys.map fun y => y.cps.toList).flatten
theorem fold_flat : ∀ (ys : List Str) (acc : Array Nat), (ys.foldl (fun acc p => acc ++ (#[] : Array Nat) ++ p.cps) acc).toList = acc.toList ++ flat ys
  | [], acc => by simp [flat]
  | y :: ys, acc => by
    rw [List.foldl_cons, fold_flat ys]
    simp [flat]
theorem join_flat : ∀ (ys : List Str), (Txt.join ⟨#[]⟩ ys) = ⟨(flat ys).toArray⟩
  | [] => rfl
  | y :: ys => by
    show (⟨ys.foldl (fun acc p => acc ++ (#[] : Array Nat) ++ p.cps) y.cps⟩ : Str) = _
    congr 1
    apply Array.toList_inj.mp
    rw [fold_flat]
    simp [flat]

def crlfL : List Nat → List Nat
  | [] => []
  | [c] => if brk c then [13, 10] else [c]
  | c :: d :: r => if brk c then (if c = 13 ∧ d = 10 then 13 :: 10 :: crlfL r else 13 :: 10 :: crlfL (d :: r)) else c :: crlfL (d :: r)
def dotL (b : Bool) : List Nat → List Nat
  | [] => []
  | c :: r => (if b && c == 46 then [46, 46] else [c]) ++ dotL (c == 10) r

theorem crlf_plain {c : Nat} {r : List Nat} (h : brk c = false) : crlfL (c :: r) = c :: crlfL r := by
  cases r with
  | nil => simp [crlfL, h]
  | cons d r => rw [crlfL, if_neg (by rw [h]; decide)]
section
variable {x : Str}
theorem drop_at {l : List Nat} {p : Nat} (h : p < l.length) : l.drop p = l.getD p 0 :: l.drop (p + 1) := by
  rw [List.drop_eq_getElem_cons h]
  simp [h]
theorem getD_list (p : Nat) : x.cps.getD p 0 = x.cps.toList.getD p 0 := by
  rw [Array.getD_eq_getD_getElem?, List.getD_eq_getElem?_getD, Array.getElem?_toList]
theorem scan2 : ∀ (n p : Nat), p + n = x.cps.size → match first2 x.cps n p with
    | none => crlfL (x.cps.toList.drop p) = x.cps.toList.drop p
    | some q => crlfL (x.cps.toList.drop p) = (x.cps.toList.drop p).take (q - p) ++ crlfL (x.cps.toList.drop q)
  | 0, p, h => by
    show crlfL (x.cps.toList.drop p) = x.cps.toList.drop p
    rw [List.drop_of_length_le (by simp; omega)]; rfl
  | n + 1, p, h => by
    unfold first2
    by_cases hb : brk (x.cps.getD p 0) = true
    · rw [if_pos hb]; simp
    · rw [if_neg hb]
      have ih := scan2 n (p + 1) (by omega)
      have hd := drop_at (l := x.cps.toList) (p := p) (by simp; omega)
      rw [getD_list] at hb
      rw [Bool.not_eq_true] at hb
      cases e : first2 x.cps n (p + 1) with
      | none =>
        rw [e] at ih
        show crlfL (x.cps.toList.drop p) = x.cps.toList.drop p
        have ih' : crlfL (x.cps.toList.drop (p + 1)) = x.cps.toList.drop (p + 1) := ih
        rw [hd, crlf_plain hb, ih']
      | some q =>
        rw [e] at ih
        have hq := first2_lt _ _ _ e
        show crlfL (x.cps.toList.drop p) = (x.cps.toList.drop p).take (q - p) ++ crlfL (x.cps.toList.drop q)
        have ih' : crlfL (x.cps.toList.drop (p + 1)) = (x.cps.toList.drop (p + 1)).take (q - (p + 1)) ++ crlfL (x.cps.toList.drop q) := ih
        rw [hd, crlf_plain hb, ih', show q - p = q - (p + 1) + 1 by omega]
        rfl
theorem hit2 {p : Nat} (hp : p < x.cps.size) (hb : brk (x.cps.getD p 0) = true) : crlfL (x.cps.toList.drop p) = 13 :: 10 :: crlfL (x.cps.toList.drop (p + len2 x.cps x.cps.size p)) := by
  have hd := drop_at (l := x.cps.toList) (p := p) (by simpa using hp)
  rw [hd]
  rw [getD_list] at hb
  unfold len2
  rw [getD_list, getD_list]
  by_cases hp1 : p + 1 < x.cps.size
  · have hd1 := drop_at (l := x.cps.toList) (p := p + 1) (by simpa using hp1)
    rw [hd1, crlfL, if_pos hb]
    by_cases hc : x.cps.toList.getD p 0 = 13 ∧ x.cps.toList.getD (p + 1) 0 = 10
    · rw [if_pos hc, if_pos ⟨hc.1, hp1, hc.2⟩]
    · rw [if_neg hc, if_neg (fun z => hc ⟨z.1, z.2.2⟩), hd1]
  · have : x.cps.toList.drop (p + 1) = [] := List.drop_of_length_le (by simp; omega)
    rw [if_neg (fun z => hp1 z.2.1), this]
    simp only [crlfL, hb, if_true]
theorem extract_drop (a b : Nat) : (x.cps.extract a b).toList = (x.cps.toList.drop a).take (b - a) := by simp
theorem sub2_flat : ∀ (f start : Nat), start ≤ x.cps.size → x.cps.size < f + start → flat (subP (nxt2 x) x ⟨#[13, 10]⟩ f start) = crlfL (x.cps.toList.drop start)
  | 0, start, h, h' => by omega
  | f + 1, start, h, h' => by
    have sc := scan2 (x := x) (x.cps.size - start) start (by omega)
    unfold subP nxt2
    cases e : first2 x.cps (x.cps.size - start) start with
    | none =>
      rw [e] at sc
      have sc' : crlfL (x.cps.toList.drop start) = x.cps.toList.drop start := sc
      show flat (if start < x.cps.size then [⟨x.cps.extract start x.cps.size⟩] else []) = _
      rw [sc']
      by_cases hlt : start < x.cps.size
      · rw [if_pos hlt]
        show ((x.cps.extract start x.cps.size).toList) ++ [] = _
        rw [List.append_nil, extract_drop, List.take_of_length_le (by simp)]
      · rw [if_neg hlt, List.drop_of_length_le (by simp; omega)]; rfl
    | some p =>
      rw [e] at sc
      have hq := first2_lt _ _ _ e
      have sc' : crlfL (x.cps.toList.drop start) = (x.cps.toList.drop start).take (p - start) ++ crlfL (x.cps.toList.drop p) := sc
      have l := len2_rng x.cps x.cps.size p (by omega)
      have ih := sub2_flat f (p + len2 x.cps x.cps.size p) (by omega) (by omega)
      show flat ((if start < p then [⟨x.cps.extract start p⟩] else []) ++ ⟨#[13, 10]⟩ :: subP (nxt2 x) x ⟨#[13, 10]⟩ f (p + len2 x.cps x.cps.size p)) = _
      rw [sc', hit2 (by omega) hq.2.2, ← ih]
      by_cases hlt : start < p
      · rw [if_pos hlt]
        show ((x.cps.extract start p).toList) ++ ([13, 10] ++ flat _) = _
        rw [extract_drop]; rfl
      · rw [if_neg hlt, show p - start = 0 by omega]; rfl

def atBegin (l : List Nat) (p : Nat) : Bool := p == 0 || l.getD (p - 1) 0 == 10
theorem hit1_eq (p : Nat) : hit1 x.cps p = (atBegin x.cps.toList p && x.cps.toList.getD p 0 == 46) := by unfold hit1 atBegin; rw [getD_list, getD_list]
theorem begin_next (p : Nat) : atBegin x.cps.toList (p + 1) = (x.cps.toList.getD p 0 == 10) := by unfold atBegin; simp
theorem scan1 : ∀ (n p : Nat), p + n = x.cps.size → match first1 x.cps n p with
    | none => dotL (atBegin x.cps.toList p) (x.cps.toList.drop p) = x.cps.toList.drop p
    | some q => dotL (atBegin x.cps.toList p) (x.cps.toList.drop p) = (x.cps.toList.drop p).take (q - p) ++ dotL (atBegin x.cps.toList q) (x.cps.toList.drop q)
  | 0, p, h => by
    show dotL _ (x.cps.toList.drop p) = x.cps.toList.drop p
    rw [List.drop_of_length_le (by simp; omega)]; rfl
  | n + 1, p, h => by
    unfold first1
    by_cases hb : hit1 x.cps p = true
    · rw [if_pos hb]; simp
    · rw [if_neg hb]
      have ih := scan1 n (p + 1) (by omega)
      have hd := drop_at (l := x.cps.toList) (p := p) (by simp; omega)
      rw [hit1_eq] at hb
      cases e : first1 x.cps n (p + 1) with
      | none =>
        rw [e] at ih
        show dotL _ (x.cps.toList.drop p) = x.cps.toList.drop p
        have ih' : dotL (atBegin x.cps.toList (p + 1)) (x.cps.toList.drop (p + 1)) = x.cps.toList.drop (p + 1) := ih
        rw [hd, dotL, if_neg hb, ← begin_next, ih']
        rfl
      | some q =>
        rw [e] at ih
        have hq := first1_lt _ _ _ e
        show dotL _ (x.cps.toList.drop p) = (x.cps.toList.drop p).take (q - p) ++ dotL (atBegin x.cps.toList q) (x.cps.toList.drop q)
        have ih' : dotL (atBegin x.cps.toList (p + 1)) (x.cps.toList.drop (p + 1)) = (x.cps.toList.drop (p + 1)).take (q - (p + 1)) ++ dotL (atBegin x.cps.toList q) (x.cps.toList.drop q) := ih
        rw [hd, dotL, if_neg hb, ← begin_next, ih', show q - p = q - (p + 1) + 1 by omega]
        rfl
theorem sub1_flat : ∀ (f start : Nat), start ≤ x.cps.size → x.cps.size < f + start → flat (subP (nxt1 x) x ⟨#[46, 46]⟩ f start) = dotL (atBegin x.cps.toList start) (x.cps.toList.drop start)
  | 0, start, h, h' => by omega
  | f + 1, start, h, h' => by
    have sc := scan1 (x := x) (x.cps.size - start) start (by omega)
    unfold subP nxt1
    cases e : first1 x.cps (x.cps.size - start) start with
    | none =>
      rw [e] at sc
      have sc' : dotL (atBegin x.cps.toList start) (x.cps.toList.drop start) = x.cps.toList.drop start := sc
      show flat (if start < x.cps.size then [⟨x.cps.extract start x.cps.size⟩] else []) = _
      rw [sc']
      by_cases hlt : start < x.cps.size
      · rw [if_pos hlt]
        show ((x.cps.extract start x.cps.size).toList) ++ [] = _
        rw [List.append_nil, extract_drop, List.take_of_length_le (by simp)]
      · rw [if_neg hlt, List.drop_of_length_le (by simp; omega)]; rfl
    | some p =>
      rw [e] at sc
      have hq := first1_lt _ _ _ e
      have sc' : dotL (atBegin x.cps.toList start) (x.cps.toList.drop start) = (x.cps.toList.drop start).take (p - start) ++ dotL (atBegin x.cps.toList p) (x.cps.toList.drop p) := sc
      have ih := sub1_flat f (p + 1) (by omega) (by omega)
      have hd := drop_at (l := x.cps.toList) (p := p) (by simp; omega)
      have hh := hq.2.2
      rw [hit1_eq] at hh
      show flat ((if start < p then [⟨x.cps.extract start p⟩] else []) ++ ⟨#[46, 46]⟩ :: subP (nxt1 x) x ⟨#[46, 46]⟩ f (p + 1)) = _
      rw [sc', hd, dotL, if_pos hh, ← begin_next, ← ih]
      by_cases hlt : start < p
      · rw [if_pos hlt]
        show ((x.cps.extract start p).toList) ++ ([46, 46] ++ flat _) = _
        rw [extract_drop]
      · rw [if_neg hlt, show p - start = 0 by omega]; rfl
end
theorem flat_len (ys : List Str) : (ys.map (·.length)).sum = (flat ys).length := by
  induction ys with
  | nil => rfl
  | cons y ys ih => 
    rw [List.map_cons, List.sum_cons, ih]
    simp [flat, Str.length]
theorem crlfL_len : ∀ l : List Nat, (crlfL l).length ≤ 2 * l.length
  | [] => by simp [crlfL]
  | [c] => by unfold crlfL; split <;> simp
  | c :: d :: r => by
    have h1 := crlfL_len r
    have h2 := crlfL_len (d :: r)
    unfold crlfL
    split
    · split <;> simp at * <;> omega
    · simp at *; omega
theorem dotL_len : ∀ (b : Bool) (l : List Nat), (dotL b l).length ≤ 2 * l.length
  | b, [] => by simp [dotL]
  | b, c :: r => by
    have h := dotL_len (c == 10) r
    unfold dotL
    split <;> simp <;> omega
/-- what quotedata makes of a text -/
def quoteL (l : List Nat) : List Nat := dotL true (crlfL l)
def quoteF (x : Str) : Str := ⟨(quoteL x.cps.toList).toArray⟩
end Mine

/- S12 -/
namespace Mine

theorem sub1_str {x : Str} : Txt.join ⟨#[]⟩ (subP (nxt1 x) x ⟨#[46, 46]⟩ (x.cps.size + 1) 0) = ⟨(dotL true x.cps.toList).toArray⟩ := by
  rw [join_flat, sub1_flat _ _ (Nat.zero_le _) (by omega)]; rfl
theorem sub2_str {x : Str} : Txt.join ⟨#[]⟩ (subP (nxt2 x) x ⟨#[13, 10]⟩ (x.cps.size + 1) 0) = ⟨(crlfL x.cps.toList).toArray⟩ := by
  rw [join_flat, sub2_flat _ _ (Nat.zero_le _) (by omega)]; rfl

def nsQuote : List Str := ["data"]
structure QOk (c : Cx) : Prop where
  g1 : c.mg "_twin_re_1" = some (.ref 48)
  g2 : c.mg "_twin_re_2" = some (.ref 53)
  g3 : ∃ t, c.mg "CRLF" = some (.str ⟨#[13, 10]⟩ t)
  p1 : ∀ h, c.K.In h → PatAt h 48 code1 0 0
  p2 : ∀ h, c.K.In h → PatAt h 53 code2 0 0

theorem quote_spec {c : Cx} {A : Around} {pm cd doc : Value} (hA : AN A 0) (q : QOk c) (F : FnOk c 60 (fdOf 8 pm cd doc) (bodyOf (defSt 8))) {x : Str} (hx : x.cps.size ≤ 2000) :
    Bi c A [] (.ref 60) [.sc (.str x)] (.sc (.str (quoteF x))) := by
  refine bi_def (ns := nsQuote) F hA.ok ?_ (by decide) fun L => ?_
  · intro vs hl
    obtain ⟨v, rfl⟩ : ∃ v, vs = [v] := by
      match vs, hl with
      | [v], _ => exact ⟨v, rfl⟩
    refine ⟨[("data", v)], rfl, fun n x hx => ?_, fun i x z hi hv => ?_⟩
    · rw [List.mem_singleton.mp hx]; exact .inl rfl
    · match i with
      | 0 =>
        simp at hv; subst hv
        simp [nsQuote] at hi; subst hi
        exact ⟨fun _ => rfl, fun q => nomatch q⟩
      | i + 1 => simp at hv
  · obtain ⟨t3, g3⟩ := q.g3
    have hl := crlfL_len x.cps.toList
    have hs2 : (⟨(crlfL x.cps.toList).toArray⟩ : Str).cps.size ≤ 10000 := by
      show (crlfL x.cps.toList).toArray.size ≤ _
      rw [List.size_toArray]; simp at hl; omega
    have hl1 := dotL_len true (crlfL x.cps.toList)
    refine exs_cons (ex_ret (ev_eq (d := .sc (.str (Txt.join ⟨#[]⟩ (subP (nxt1 ⟨(crlfL x.cps.toList).toArray⟩) ⟨(crlfL x.cps.toList).toArray⟩ ⟨#[46, 46]⟩ ((⟨(crlfL x.cps.toList).toArray⟩ : Str).cps.size + 1) 0)))) ?_ ?_) rfl)
    · refine ev_method2 (T := "re.Pattern") (id := "re.Pattern.sub") (ev_global rfl q.g1 rfl (d := .own 48) fun _ => rfl) (hT_pat q.p1) FR.plainAttrs_pat FR.slot_sub FR.type_sub
        (evs_cons (d := .sc (.str ⟨#[46, 46]⟩)) ev_str (evs_cons (d := .sc (.str ⟨(crlfL x.cps.toList).toArray⟩)) ?_ evs_nil rfl) rfl) (bi_sub q.p1 (nxt1_ok hs2) hs2 (by decide +kernel) ?_) rfl rfl rfl rfl rfl
      · refine ev_eq (ev_method2 (T := "re.Pattern") (id := "re.Pattern.sub") (ev_global rfl q.g2 rfl (d := .own 53) fun _ => rfl) (hT_pat q.p2) FR.plainAttrs_pat FR.slot_sub FR.type_sub
          (evs_cons (d := .sc (.str ⟨#[13, 10]⟩)) (ev_global rfl g3 rfl fun _ => .str _ _) (evs_cons (ev_name 0 rfl rfl (.inl rfl) rfl) evs_nil rfl) rfl) (bi_sub q.p2 (nxt2_ok (by omega)) (by omega) (by decide +kernel) ?_) rfl rfl rfl rfl rfl) ?_
        · rw [flat_len, sub2_flat _ _ (Nat.zero_le _) (by omega)]
          simp at hl ⊢; omega
        · rw [sub2_str]
      · rw [flat_len, sub1_flat _ _ (Nat.zero_le _) (by omega)]
        simp at hl hl1 ⊢
        have : (dotL (atBegin (crlfL x.cps.toList) 0) (crlfL x.cps.toList)).length ≤ 2 * (crlfL x.cps.toList).length := dotL_len _ _
        omega
    · rw [sub1_str]
      rfl
end Mine

/- S13 -/
namespace Mine
open Builtin.Re Builtin

abbrev natsOf (b : Array UInt8) : Array Nat := b.map (·.toNat)
theorem named_match (a : Value) : reNamed "re.Pattern.match" "match" ["string", "pos", "endpos"] 1 [a] [] = pure [some a, none, none] := by kernel_rfl
theorem text_bytes {b : Array UInt8} {t : Tok} : reTextOf (.bytes b t) = pure (natsOf b, 1) := by
  unfold reTextOf
  rw [KBy.quiet_eq]
  rfl
theorem isi_bytes {b : Array UInt8} {t : Tok} : isInstance (.bytes b t) (.type "bytes") = pure true := by
  show isSubtype (.type "bytes") (.type "bytes") = _
  rw [isSubtype_type]; kernel_rfl
theorem noColl {b : Array UInt8} {t : Tok} : reNoCollectionInside (.bytes b t) 1 = pure () := by
  unfold reNoCollectionInside
  rw [isi_bytes]
  rfl
section
variable {M : Model} {A : Around} {E : Value → Shared → Prop} {s : Shared} {a : Addr} {code : Array Nat} {groups : Nat}
theorem wp_target {b : Array UInt8} {t : Tok} (P : PatAt s.heap a code groups 1) (hz : b.size ≤ 100000) {Q : ReTarget → Shared → Prop}
    (h : Q { pattern := .ref a, string := .bytes b t, code, text := natsOf b, kind := 1, groups, pos := 0, lim := (natsOf b).size } s) :
    wpAny M A (reTarget "re.Pattern.match" "match" ⟨[.ref a, .bytes b t], []⟩) Q E s := by
  obtain ⟨o, fs, ca, oc, its, n, h1, h2, h3, h4, h5, h6, h7, h8, h9, h10⟩ := P.ex
  unfold reTarget
  show wpAny M A (reNamed "re.Pattern.match" "match" ["string", "pos", "endpos"] 1 [.bytes b t] [] >>= fun z => _) _ _ s
  rw [named_match]
  refine wpAny_bind (wpAny_pure ?_)
  show wpAny M A (fieldsOf (.ref a) >>= fun fs => _) _ _ s
  refine wpAny_bind (wpAny_fieldsOf h1 h4 ?_)
  refine wpAny_bind (wpAny_of_eq text_bytes ?_)
  rw [h5, h6, h7]
  show wpAny M A (do reNoCollectionInside (.bytes b t) 1; let c ← reRawItems (.ref ca); pure _) _ _ _
  rw [noColl]
  refine wpAny_bind (wpAny_pure ?_)
  refine wpAny_bind (wp_rawItems h8 h9 (wpAny_pure ?_))
  rw [h10]
  have e1 : min ((0 : Int)).toNat (natsOf b).size = 0 := by simp
  have e2 : min ((2 ^ 63 - 1 : Int)).toNat (natsOf b).size = (natsOf b).size := by
    have : (natsOf b).size = b.size := by simp
    have e3 : ((2 ^ 63 - 1 : Int)).toNat = 9223372036854775807 := by decide
    rw [e3]; omega
  show Q { pattern := .ref a, string := .bytes b t, code, text := natsOf b, kind := 1, groups, pos := min ((0 : Int)).toNat (natsOf b).size, lim := min ((2 ^ 63 - 1 : Int)).toNat (natsOf b).size } s
  rw [e1, e2]
  exact h

/-- a match as it lies in the heap -/
structure MatAt (h : Heap) (m a : Addr) (b : Array UInt8) (p e : Nat) : Prop where
  ex : ∃ o fs t ta ot n x y, h.get? m = some o ∧ o.cls = .type "re.Match" ∧ o.dict = none ∧ o.data = .fields fs ∧ fs.getD 0 .none = .bytes b t ∧ fs.getD 1 .none = .ref a ∧ fs.getD 5 .none = .ref ta ∧
    h.get? ta = some ot ∧ ot.data = .seq #[rawInt x, rawInt y, rawInt (p : Nat), rawInt (e : Nat)] n
theorem MatAt.keep {h h' : Heap} {m a : Addr} {b : Array UInt8} {p e : Nat} (x : MatAt h m a b p e) (k : ∀ c o, h.get? c = some o → (∀ es n, o.data ≠ .dict es n) → (∀ v, o.data ≠ .cell v) → h'.get? c = some o) : MatAt h' m a b p e := by
  obtain ⟨o, fs, t, ta, ot, n, x, y, h1, h2, h3, h4, h5, h6, h7, h8, h9⟩ := x.ex
  exact ⟨⟨o, fs, t, ta, ot, n, x, y, k _ _ h1 (by rw [h4]; simp) (by rw [h4]; simp), h2, h3, h4, h5, h6, h7, k _ _ h8 (by rw [h9]; simp) (by rw [h9]; simp), h9⟩⟩
theorem MatAt.typeIs {m a : Addr} {b : Array UInt8} {p e : Nat} (x : MatAt s.heap m a b p e) : s.TypeIs (.ref m) "re.Match" := by
  obtain ⟨o, fs, t, ta, ot, n, x, y, h1, h2, h3, h4, h5, h6, h7, h8, h9⟩ := x.ex
  exact ⟨o, h1, h2⟩
theorem wp_newMatch {b : Array UInt8} {t : Tok} {m : Sre.M} {p e lim : Nat} (h1 : m.marks = #[some p, some e]) (h2 : m.lastmark = 1) (hpe : p ≤ e) {Q : Value → Shared → Prop}
    (h : ∀ h' m', MatAt h' m' a b p e → KH s.heap h' → Q (.ref m') { s with heap := h' }) : wpAny M A (reNewMatch (.ref a) (.bytes b t) 1 0 lim m) Q E s := by
  unfold reNewMatch
  rw [h1, h2]
  have e1 : (List.range 1).flatMap (fun g => match if ((2 * g + 1 : Nat) : Int) ≤ 1 then ((#[some p, some e] : Array (Option Nat)).getD (2 * g) none, (#[some p, some e] : Array (Option Nat)).getD (2 * g + 1) none) else (none, none) with
    | (some b, some e) => [rawInt b, rawInt e]
    | _ => [rawInt (-1), rawInt (-1)]) = [rawInt p, rawInt e] := rfl
  have e2 : (List.range 1).any (fun g => match (#[some p, some e] : Array (Option Nat)).getD (2 * g) none, (#[some p, some e] : Array (Option Nat)).getD (2 * g + 1) none with
    | some b, some e => decide (((2 * g + 1 : Nat) : Int) ≤ 1) && decide (e < b)
    | _, _ => false) = false := by
    show ((true && decide (e < p)) || false) = false
    rw [decide_eq_false (by omega)]; rfl
  show wpAny M A (if (List.range 1).any (fun g => match (#[some p, some e] : Array (Option Nat)).getD (2 * g) none, (#[some p, some e] : Array (Option Nat)).getD (2 * g + 1) none with
    | some b, some e => decide (((2 * g + 1 : Nat) : Int) ≤ 1) && decide (e < b)
    | _, _ => false) = true then _ else newTuple (rawInt m.start :: rawInt m.handed :: (List.range 1).flatMap (fun g => match if ((2 * g + 1 : Nat) : Int) ≤ 1 then ((#[some p, some e] : Array (Option Nat)).getD (2 * g) none, (#[some p, some e] : Array (Option Nat)).getD (2 * g + 1) none) else (none, none) with
    | (some b, some e) => [rawInt b, rawInt e]
    | _ => [rawInt (-1), rawInt (-1)])) >>= fun tup => newFields "re.Match" [.bytes b t, .ref a, rawInt 0, rawInt lim, rawInt m.lastindex, tup]) _ _ s
  rw [e1, e2]
  refine wpAny_bind (wpAny_newTuple ?_)
  unfold newFields
  refine wpAny_newObj_type ?_
  refine h _ _ ⟨⟨_, _, t, s.heap.objs.size, _, 0, m.start, m.handed, Heap.get?_push_size _ rfl, rfl, rfl, rfl, rfl, rfl, rfl, Heap.get?_push_of_some _ (Heap.get?_push_size _ rfl), rfl⟩⟩ fun b o eb => Heap.get?_push_of_some _ (Heap.get?_push_of_some _ eb)
end
end Mine

/- S14 -/
namespace Mine
open Builtin.Re Builtin

section
variable {prog : Program} {w : World} {A : Around} {E : Value → Shared → Prop} {s : Shared}
theorem call_wp {T : String} {name : Str} {id : String} {B : Builtin} {self : Value} {rest : List Value} {Q : Value → Shared → Prop} (slot : Slot T name id) (hT : s.TypeIs self T)
    (entry : entryFor table id = some B) (args : argsOk id ⟨self :: rest, []⟩) (g : wpAny (model prog w) A.in1 (B ⟨self :: rest, []⟩) (fun fin s' => ∃ v, fin = .done (.ret v) ∧ Q v s') E s) :
    wpAny (model prog w) A (call (.builtin id) (self :: rest)) Q E s :=
  wpAny_call (codeAny_call_builtin slot.plain entry (slot.check _ _ _ _ _ _ _ _ hT args (wpAny_mono g (fun fin s' h' => by obtain ⟨v, rfl, hv⟩ := h'; exact hv) fun _ _ x => x)))

theorem wp_match_yes {a : Addr} {b : Array UInt8} {t : Tok} {p e q k : Nat} (P : PatAt s.heap a codeF 1 1) (hz : b.size ≤ 100000) (hk : k ≤ 2 ^ 60) (hpe : p ≤ e)
    (x : Wr k (Sre.forMatch codeF (natsOf b) 1 0 (natsOf b).size false false) (.yes 0 q #[some p, some e] 1)) {Q : Value → Shared → Prop}
    (h : ∀ h' m', MatAt h' m' a b p e → KH s.heap h' → Q (.ref m') { s with heap := h' }) :
    wpAny (model prog w) A (call (.builtin "re.Pattern.match") [.ref a, .bytes b t]) Q E s := by
  refine call_wp FR.slot_match P.typeIs FR.entry_match (FR.args_match _ _) ?_
  unfold «re.Pattern.match»
  refine wpAny_bind (wp_target P hz ?_)
  obtain ⟨m', hR, i1, i2, i3, i4, i5⟩ := x
  unfold reAnswer
  refine wpAny_bind (wp_run hR hk (.inl i1) ?_)
  rw [i1]
  refine wpAny_bind (wp_newMatch i4 i5 hpe fun h' m'' hm kh => ?_)
  exact wpAny_pure ⟨_, rfl, h h' m'' hm kh⟩
theorem wp_match_no {a : Addr} {b : Array UInt8} {t : Tok} {k : Nat} (P : PatAt s.heap a codeF 1 1) (hz : b.size ≤ 100000) (hk : k ≤ 2 ^ 60)
    (x : Wr k (Sre.forMatch codeF (natsOf b) 1 0 (natsOf b).size false false) .no) {Q : Value → Shared → Prop} (h : Q .none s) :
    wpAny (model prog w) A (call (.builtin "re.Pattern.match") [.ref a, .bytes b t]) Q E s := by
  refine call_wp FR.slot_match P.typeIs FR.entry_match (FR.args_match _ _) ?_
  unfold «re.Pattern.match»
  refine wpAny_bind (wp_target P hz ?_)
  obtain ⟨m', hR, i1⟩ := x
  have i1' : m'.outcome = some .failed := i1
  unfold reAnswer
  refine wpAny_bind (wp_run hR hk (.inr i1') ?_)
  rw [i1']
  exact wpAny_pure ⟨_, rfl, h⟩

theorem str_noindex {x : Str} {t : Tok} : specialOf (.str x t) "__index__" = pure none := by
  show typeLookup (.type "str") "__index__" = _
  rw [typeLookup_type, builtinLookup_eq_fast]; kernel_rfl
theorem extract_nats (b : Array UInt8) (p e : Nat) : ((natsOf b).extract p e).map (·.toUInt8) = b.extract p e := by
  apply Array.ext
  · simp
  · intro i h1 h2
    simp [natsOf]
/-- the pattern's table of names -/
structure GrpAt (prog : Program) (w : World) (h : Heap) (a : Addr) : Prop where
  ex : ∃ o fs d f t, h.get? a = some o ∧ o.data = .fields fs ∧ fs.getD 3 .none = .ref d ∧ h.MapOf (strKind prog w) d f ∧ f (Str.ofString "flags") = some (.int 1 t)
theorem wp_group {a m : Addr} {b : Array UInt8} {t : Tok} {p e : Nat} (X : MatAt s.heap m a b p e) (G : GrpAt prog w s.heap a) (hz : b.size ≤ 100000) {Q : Value → Shared → Prop}
    (h : ∀ t' k, Q (.bytes (b.extract p e) t') { s with toks := k }) :
    wpAny (model prog w) A (call (.builtin "re.Match.group") [.ref m, .str (Str.ofString "flags") t]) Q E s := by
  refine call_wp FR.slot_group X.typeIs FR.entry_group (FR.args_group _ _) ?_
  obtain ⟨o, fs, tb, ta, ot, n, xx, yy, h1, h2, h3, h4, h5, h6, h7, h8, h9⟩ := X.ex
  obtain ⟨oa, fa, d, f, tf, g1, g2, g3, g4, g5⟩ := G.ex
  show wpAny _ _ (do
    let x ← reFound (.ref m)
    ret (← reGroupText x (← reGroupNumber x (.str (Str.ofString "flags") t)) .none)) _ _ s
  unfold reFound
  refine wpAny_bind (wpAny_bind (wpAny_fieldsOf h1 h4 ?_))
  rw [h7]
  have es : Array.map reRawOf #[rawInt xx, rawInt yy, rawInt (p : Nat), rawInt (e : Nat)] = #[xx, yy, (p : Int), (e : Int)] := by simp [reRawOf, rawInt]
  refine wpAny_bind (wp_rawItems h8 h9 (wpAny_pure ?_))
  rw [es]
  refine wpAny_bind ?_
  unfold reGroupNumber
  refine wpAny_bind (wpAny_of_eq (a := (none : Option Int)) rfl ?_)
  show wpAny _ _ (specialOf (.str (Str.ofString "flags") t) "__index__" >>= fun z => _) _ _ s
  rw [str_noindex]
  refine wpAny_bind (wpAny_pure ?_)
  show wpAny _ _ (fieldsOf (fs.getD 1 .none) >>= fun z => _) _ _ s
  rw [h6]
  refine wpAny_bind (wpAny_fieldsOf g1 g2 ?_)
  rw [g3]
  refine wpAny_bind (wpAny_dictGet_of (strKind_is prog w _ t) g4 ?_)
  rw [g5]
  refine wpAny_bind (wpAny_of_eq (a := some (1 : Int)) rfl ?_)
  refine wpAny_bind (wpAny_pure ?_)
  show wpAny _ _ (pure 1 : Sem Nat) _ _ _
  refine wpAny_pure ?_
  refine wpAny_bind ?_
  unfold reGroupText
  show wpAny _ _ (if ((decide (((p : Nat) : Int) < 0) || decide (((e : Nat) : Int) < 0)) = true) then pure Value.none else do
    let (text, kind) ← reTextOf (fs.getD 0 .none)
    reSlice text kind p e) _ _ _
  rw [if_neg (by simp), h5, text_bytes]
  refine wpAny_bind (wpAny_pure ?_)
  show wpAny _ _ (mkBytes (((natsOf b).extract p e).map (·.toUInt8))) _ _ _
  rw [extract_nats]
  refine wpAny_mkBytes ?_ (by rw [Array.size_extract, sizeLine_eq]; omega)
  exact wpAny_pure ⟨_, rfl, h _ _⟩
end
end Mine

/- S15 -/
namespace Mine
open Builtin.Re Builtin

theorem bind_split : Bytes.bindOptional "bytes.split" "split" ["sep", "maxsplit"] [] [] = pure [none, none] := by kernel_rfl
section
variable {prog : Program} {w : World} {A : Around} {E : Value → Shared → Prop} {s : Shared}
theorem wp_mkAll : ∀ (ws : List (List UInt8)) (s : Shared), (∀ x ∈ ws, x.length ≤ 100000) → ∀ {Q : List Value → Shared → Prop},
    (∀ vs k, Paired ScR vs (sBytes (ws.map (·.toArray))) → Q vs { s with toks := k }) → wpAny (model prog w) A (ws.mapM fun x => mkBytes x.toArray) Q E s
  | [], s, _, Q, h => wpAny_pure (h [] s.toks .nil)
  | x :: ws, s, hz, Q, h => by
    rw [List.mapM_cons]
    refine wpAny_bind (wpAny_mkBytes ?_ (by rw [sizeLine_eq]; have := hz x (.head _); simp; omega))
    refine wpAny_bind (wp_mkAll ws _ (fun y hy => hz y (.tail _ hy)) fun vs k p => wpAny_pure ?_)
    exact h _ k (.cons (.bytes _ _) p)
theorem wp_split {b : Array UInt8} {t : Tok} (hz : b.size ≤ 10000) (hs : b.any Bytes.isSpace = true) (hw : ∀ x ∈ Bytes.words (b.size + 1) (b.size + 1) b.toList, x.length ≤ 100000) {Q : Value → Shared → Prop}
    (h : ∀ vs k, Paired ScR vs (sBytes ((Bytes.words (b.size + 1) (b.size + 1) b.toList).map (·.toArray))) → Q (.ref s.heap.objs.size) { s with heap := s.heap.push { cls := .type "list", data := .seq vs.toArray }, toks := k })
    (hl : (Bytes.words (b.size + 1) (b.size + 1) b.toList).length ≤ 1000) :
    wpAny (model prog w) A (call (.builtin "bytes.split") [.bytes b t]) Q E s := by
  refine call_wp FR.slot_split (typeIs_bytes _ _ _) FR.entry_split (FR.args_split _) ?_
  show wpAny _ _ (Bytes.bindOptional "bytes.split" "split" ["sep", "maxsplit"] [] [] >>= fun z => _) _ _ s
  rw [bind_split]
  refine wpAny_bind (wpAny_pure ?_)
  show wpAny _ _ (do
    rule "bytes.split.whitespace"
    if decide (b.size + 1 > 0) && !b.isEmpty && !b.any Bytes.isSpace then ret (← newList [← Bytes.Kind.bytes.same (.bytes b t)])
    else ret (← newList (← (Bytes.words (b.size + 1) (b.size + 1) b.toList).mapM fun w => mkBytes w.toArray))) _ _ s
  refine wpAny_bind (wpAny_rule ?_)
  rw [if_neg (by rw [hs]; simp)]
  refine wpAny_bind (wp_mkAll _ s hw fun vs k p => ?_)
  refine wpAny_bind (wpAny_newList ?_ ?_)
  · exact wpAny_pure ⟨_, rfl, h vs k p⟩
  · have := p.length
    simp at this
    rw [sizeLine_eq]; omega
end
end Mine

/- S16 -/
namespace Mine
open Builtin.Re Builtin

theorem look_match_bool : typeLookup (.type "re.Match") "__bool__" = pure none := by rw [typeLookup_type, builtinLookup_eq_fast]; kernel_rfl
theorem look_match_len : typeLookup (.type "re.Match") "__len__" = pure none := by rw [typeLookup_type, builtinLookup_eq_fast]; kernel_rfl
theorem truthy_match {M : Model} {A : Around} {E : Value → Shared → Prop} {s : Shared} {m : Addr} (hT : s.TypeIs (.ref m) "re.Match") {Q : Bool → Shared → Prop} (h : Q true s) : wpAny M A (truthy (.ref m)) Q E s := by
  unfold truthy
  refine wpAny_bind (wpAny_callSpecial?_none hT look_match_bool ?_)
  refine wpAny_bind (wpAny_specialOf hT look_match_len ?_)
  exact wpAny_pure h

def nsParse : List Str := ["resp", "mo"]
structure FOk (c : Cx) : Prop where
  g : c.mg "Flags" = some (.ref 36)
  p : ∀ h, c.K.In h → PatAt h 36 codeF 1 1
  d : ∀ h, c.K.In h → GrpAt c.prog c.w h 36
  t0 : c.mg "tuple" = none
  t1 : c.mb "tuple" = some (.type "tuple")

theorem binds1 {fd : FuncData} {a : Addr} {ns : List Str} {x : Str} (h : ∀ v : Value, bindArgs fd ⟨[v], []⟩ = pure [(x, v)]) (hl : fd.scope.names.lookup x = some .local) (hn : ns[0]? = some x) : Binds fd a ns 1 := by
  intro vs hl'
  obtain ⟨v, rfl⟩ : ∃ v, vs = [v] := by
    match vs, hl' with
    | [v], _ => exact ⟨v, rfl⟩
  refine ⟨_, h v, fun n y hy => ?_, fun i y u hi hv => ?_⟩
  · rw [List.mem_singleton.mp hy]; exact .inl hl
  · cases i with
    | zero =>
      simp at hv; subst hv
      rw [hn] at hi; cases hi
      refine ⟨fun _ => by simp [bindL, hl], fun q => by rw [hl] at q; cases q⟩
    | succ i => simp at hv

section
variable {c : Cx} {A : Around} {pm cd doc : Value}
/-- the first statement, whatever the match gives -/
theorem parse_yes (hA : AN A 1) (f : FOk c) (F : FnOk c 43 (fdOf 3 pm cd doc) (bodyOf (defSt 3))) {b : Array UInt8} {p e q k : Nat} (hz : b.size ≤ 10000) (hk : k ≤ 2 ^ 60) (hpe : p ≤ e)
    (x : Wr k (Sre.forMatch codeF (natsOf b) 1 0 (natsOf b).size false false) (.yes 0 q #[some p, some e] 1)) {ws : List (List UInt8)}
    (hws : Bytes.words ((b.extract p e).size + 1) ((b.extract p e).size + 1) (b.extract p e).toList = ws) (hs : (b.extract p e).any Bytes.isSpace = true) (hl : ws.length ≤ 1000) (hw : ∀ x ∈ ws, x.length ≤ 100000) :
    Bi c A [] (.ref 43) [.sc (.bytes b)] (.tuple (sBytes (ws.map (·.toArray)))) := by
  intro s vs G _ pr
  refine call_enter (ns := nsParse) F hA.ok G (binds1 (x := "resp") (fun v => rfl) rfl rfl) (by decide) pr fun L s₁ X => ?_
  refine wpAny_execs_cons (wpAny_Assign_Name (wpAny_Call_method (T := "re.Pattern") (id := "re.Pattern.match") rfl rfl rfl FR.plainAttrs_pat FR.slot_match FR.type_match (wpAny_mono (ev_global (d := .own 36) rfl f.g rfl (fun _ => rfl) s₁ X.g X.view) (fun v s₂ q₂ => ?_) fun _ _ x => x)) rfl)
  obtain ⟨q₂, k₂⟩ := q₂
  have X₂ := X.kept k₂
  obtain ⟨t1, t2⟩ := hT_pat f.p s₂ v X₂.g q₂
  have q₂' : v = .ref 36 := q₂
  subst q₂'
  refine ⟨t1, t2, callWith_method1 (wpAny_mono (evs_cons (d := .sc (.bytes b)) (ev_name 0 rfl rfl (.inl rfl) rfl) evs_nil rfl _ s₂ X₂.g X₂.view) (fun us s₃ r => ?_) fun _ _ x => x) rfl rfl⟩
  obtain ⟨r, k₃⟩ := r
  have X₃ := X₂.kept k₃
  obtain ⟨u, rfl, hu⟩ := paired1 r
  have hu' : ScR u (.bytes b) := hu
  obtain ⟨t, rfl⟩ : ∃ t, u = .bytes b t := by cases hu'; exact ⟨_, rfl⟩
  refine wp_match_yes (f.p _ X₃.g.k) (by omega) hk hpe x fun h' m hm kh => ?_
  have X₄ := X₃.kept (⟨h', s₃.toks, rfl, kh⟩ : Keeps s₃ { s₃ with heap := h' })
  refine wpAny_mono (st_store 1 X₄ rfl (.inl rfl) (d := .own m) rfl) (fun _ s₅ z => ?_) fun _ _ x => x
  obtain ⟨X₅, pr₅⟩ := z
  have hm₅ : MatAt s₅.heap m 36 b p e := hm.keep fun b o e h1 h2 => pr₅.keep b o e h1 h2 (by simp)
  refine wpAny_execs_cons (wpAny_If (isTrue_not (isTrue_plain (wpAny_mono (ev_name (d := .own m) 1 rfl rfl (.inl rfl) rfl s₅ X₅.g X₅.view) (fun v s₆ z => ?_) fun _ _ x => x) rfl)))
  obtain ⟨z, k₆⟩ := z
  have z' : v = .ref m := z
  subst z'
  have X₆ := X₅.kept k₆
  have hm₆ : MatAt s₆.heap m 36 b p e := hm₅.keep fun b o e _ _ => keeps_kh k₆ b o e
  refine truthy_match hm₆.typeIs ?_
  refine wpAny_execs_nil ?_
  refine wpAny_execs_cons (wpAny_Return_some (Call_ (Calls.Name_function_global X₆.view.fn rfl (Calls.loadGlobal_builtin (mg := c.mg) (mb := c.mb) (X₆.view.gl ▸ X₆.g.g) f.t0 (X₆.view.bu ▸ X₆.g.b) f.t1 ?_) rfl) rfl))
  refine callWith_type1 (args_cons (wpAny_Call_method (T := "bytes") (id := "bytes.split") rfl rfl rfl FB.plainAttrs_bytes FR.slot_split FR.type_split ?_) rfl) rfl rfl
  refine wpAny_Call_method (T := "re.Match") (id := "re.Match.group") rfl rfl rfl FR.plainAttrs_match FR.slot_group FR.type_group (wpAny_mono (ev_name (d := .own m) 1 rfl rfl (.inl rfl) rfl s₆ X₆.g X₆.view) (fun v s₇ z => ?_) fun _ _ x => x)
  obtain ⟨z, k₇⟩ := z
  have z' : v = .ref m := z
  subst z'
  have X₇ := X₆.kept k₇
  have hm₇ : MatAt s₇.heap m 36 b p e := hm₆.keep fun b o e _ _ => keeps_kh k₇ b o e
  refine ⟨hm₇.typeIs, fun a' e' => ?_, callWith_method1 (wpAny_mono (evs_cons ev_str evs_nil rfl _ s₇ X₇.g X₇.view) (fun us s₈ r => ?_) fun _ _ x => x) rfl rfl⟩
  · cases e'
    obtain ⟨o, fs, t, ta, ot, n, x, y, h1, h2, h3, _⟩ := hm₇.ex
    exact ⟨o, h1, h3⟩
  obtain ⟨r, k₈⟩ := r
  have X₈ := X₇.kept k₈
  have hm₈ : MatAt s₈.heap m 36 b p e := hm₇.keep fun b o e _ _ => keeps_kh k₈ b o e
  obtain ⟨u, rfl, hu⟩ := paired1 r
  obtain ⟨t, rfl⟩ : ∃ t, u = .str (Str.ofString "flags") t := by
    have hu' : ScR u (.str (Str.ofString "flags")) := hu
    cases hu'; exact ⟨_, rfl⟩
  refine wp_group hm₈ (f.d _ X₈.g.k) (by omega) fun t' k₉ => ?_
  refine ⟨typeIs_bytes _ _ _, (fun _ e => nomatch e), callWith_method0 ?_⟩
  subst hws
  refine wp_split (s := { s₈ with toks := k₉ }) (by rw [Array.size_extract]; omega) hs hw (fun vs k pw => ?_) hl
  refine args_nil ?_
  have hsz : vs.length ≤ 1000 := by
    have := pw.length
    rw [List.length_map, List.length_map] at this; omega
  refine call_tuple_list (s := { s₈ with heap := s₈.heap.push { cls := .type "list", data := .seq vs.toArray }, toks := k }) ⟨_, Heap.get?_push_size _ rfl, rfl, _, rfl⟩ (fun h'' kh'' => ?_) (by simp; rw [sizeLine_eq]; omega)
  refine ⟨_, rfl, ⟨_, _, rfl, by simp, ⟨_, Heap.get?_push_size _ rfl, rfl, _, rfl⟩, by simpa using pw⟩, ?_⟩
  refine keeps_trans X₈.keeps ⟨_, k, rfl, fun b o eb => Heap.get?_push_of_some _ (kh'' b o (Heap.get?_push_of_some _ eb))⟩

theorem parse_no (hA : AN A 1) (f : FOk c) (F : FnOk c 43 (fdOf 3 pm cd doc) (bodyOf (defSt 3))) {b : Array UInt8} {k : Nat} (hz : b.size ≤ 10000) (hk : k ≤ 2 ^ 60)
    (x : Wr k (Sre.forMatch codeF (natsOf b) 1 0 (natsOf b).size false false) .no) :
    Bi c A [] (.ref 43) [.sc (.bytes b)] (.tuple (sBytes [])) := by
  intro s vs G _ pr
  refine call_enter (ns := nsParse) F hA.ok G (binds1 (x := "resp") (fun v => rfl) rfl rfl) (by decide) pr fun L s₁ X => ?_
  refine wpAny_execs_cons (wpAny_Assign_Name (wpAny_Call_method (T := "re.Pattern") (id := "re.Pattern.match") rfl rfl rfl FR.plainAttrs_pat FR.slot_match FR.type_match (wpAny_mono (ev_global (d := .own 36) rfl f.g rfl (fun _ => rfl) s₁ X.g X.view) (fun v s₂ q₂ => ?_) fun _ _ x => x)) rfl)
  obtain ⟨q₂, k₂⟩ := q₂
  have X₂ := X.kept k₂
  obtain ⟨t1, t2⟩ := hT_pat f.p s₂ v X₂.g q₂
  have q₂' : v = .ref 36 := q₂
  subst q₂'
  refine ⟨t1, t2, callWith_method1 (wpAny_mono (evs_cons (d := .sc (.bytes b)) (ev_name 0 rfl rfl (.inl rfl) rfl) evs_nil rfl _ s₂ X₂.g X₂.view) (fun us s₃ r => ?_) fun _ _ x => x) rfl rfl⟩
  obtain ⟨r, k₃⟩ := r
  have X₃ := X₂.kept k₃
  obtain ⟨u, rfl, hu⟩ := paired1 r
  have hu' : ScR u (.bytes b) := hu
  obtain ⟨t, rfl⟩ : ∃ t, u = .bytes b t := by cases hu'; exact ⟨_, rfl⟩
  refine wp_match_no (f.p _ X₃.g.k) (by omega) hk x ?_
  refine wpAny_mono (st_store 1 X₃ rfl (.inl rfl) (d := .sc .none) ScR.none) (fun _ s₅ z => ?_) fun _ _ x => x
  obtain ⟨X₅, pr₅⟩ := z
  refine wpAny_execs_cons (wpAny_If (isTrue_not (isTrue_plain (wpAny_mono (ev_name (d := .sc .none) 1 rfl rfl (.inl rfl) rfl s₅ X₅.g X₅.view) (fun v s₆ z => ?_) fun _ _ x => x) rfl)))
  obtain ⟨z, k₆⟩ := z
  have z' : ScR v .none := z
  cases z'
  have X₆ := X₅.kept k₆
  refine truthy_none ?_
  refine wpAny_execs_cons (wpAny_Return_some (wpAny_mono (ev_tuple (xs := sBytes []) evs_nil (by decide) s₆ X₆.g X₆.view) (fun v s₇ z => ?_) fun _ _ x => x))
  exact ⟨v, rfl, z.1, keeps_trans X₆.keeps z.2⟩
end
end Mine

/- S17 -/
namespace Mine
open Builtin.Re Builtin Builtin._codecs

theorem encode_tree {x : Str} {t u : Tok} : «str.encode» ⟨[.str x t, .str (Str.ofString "latin-1") u], []⟩ = (do ret (← encodeRoad "str.encode" (.str x t) x (Str.ofString "latin-1") none)) := by kernel_rfl
theorem encodeRoad_latin {self : Value} {x : Str} {id : String} : encodeRoad id self x (Str.ofString "latin-1") none = (do mkBytes (← encodeNarrow id latin1Codec none self x)) := by kernel_rfl
section
variable {M : Model} {prog : Program} {w : World} {A : Around} {E : Value → Shared → Prop} {s : Shared}
theorem wpAny_forIn_range {β : Type} {n : Nat} (f : Nat → β → Sem (ForInStep β)) (I : Nat → β → Shared → Prop) (Q : β → Shared → Prop)
    (turn : ∀ i k b s, I (k + 1) b s → wpAny M A (f i b) (fun r s' => match r with | .yield b' => I k b' s' | .done b' => Q b' s') E s)
    (fin : ∀ b s, I 0 b s → Q b s) (b : β) (h : I n b s) : wpAny M A (forIn [:n] b f) Q E s := by
  rw [Std.Legacy.Range.forIn_eq_forIn_range']
  refine wpAny_forIn_list f (fun l b s => I l.length b s) Q (fun x rest b s hI => turn x rest.length b s hI) (fun b s hI => fin b s hI) _ _ ?_
  simpa [Std.Legacy.Range.size] using h
theorem foldl_latin : ∀ (l : List Nat) (acc : Array UInt8), l.foldl (fun acc y => acc ++ (latin1Codec.bytesOf y).toArray) acc = acc ++ (l.map (·.toUInt8)).toArray
  | [], acc => by simp
  | c :: l, acc => by
    rw [List.foldl_cons, foldl_latin l]
    apply Array.toList_inj.mp
    simp [latin1Codec]
theorem wp_narrow {x : Str} {id : String} {self : Value} (h : ∀ c ∈ x.cps.toList, c < 256) (hz : x.cps.size ≤ 100000) {Q : Array UInt8 → Shared → Prop} (hQ : Q (x.cps.map (·.toUInt8)) s) :
    wpAny (model prog w) A (encodeNarrow id latin1Codec none self x) Q E s := by
  unfold encodeNarrow
  refine wpAny_bind (wpAny_mono (wpAny_forIn_range (β := Nat × Array UInt8 × Faults) _ (fun k b s' => s' = s ∧ ((b.1 = 0 ∧ b.2.1 = #[] ∧ k = x.length) ∨ (b.1 = x.cps.size ∧ b.2.1 = x.cps.map (·.toUInt8)))) (fun b s' => s' = s ∧ b.2.1 = x.cps.map (·.toUInt8)) ?_ ?_ _ ⟨rfl, .inl ⟨rfl, rfl, rfl⟩⟩) (fun b s' hb => ?_) fun _ _ x => x)
  · rintro i k ⟨p, out, st⟩ s' ⟨rfl, hb⟩
    rcases hb with ⟨hb1, hb2, hk⟩ | ⟨hb1, hb2⟩
    · have hb1' : p = 0 := hb1
      have hb2' : out = #[] := hb2
      subst hb1' hb2'
      have h0 : 0 < x.cps.size := by have : x.length = x.cps.size := rfl; omega
      dsimp only
      rw [if_neg (by rw [sizeLine_eq]; simp), Array.getElem?_eq_getElem h0]
      dsimp only
      have hbad : latin1Codec.bad x.cps[0] = false := by
        have := h x.cps[0] (by simp)
        show decide (x.cps[0] ≥ 256) = false
        rw [decide_eq_false (by omega)]
      rw [hbad, if_pos (show (!false) = true from rfl)]
      refine wpAny_pure ⟨rfl, .inr ⟨?_, ?_⟩⟩
      · have hn : Array.findIdx? latin1Codec.bad (x.cps.extract 0) = none := by
          rw [Array.findIdx?_eq_none_iff]
          intro c hc
          have := h c (by simpa using hc)
          show decide (c ≥ 256) = false
          rw [decide_eq_false (by omega)]
        show 0 + (Array.findIdx? latin1Codec.bad (x.cps.extract 0)).getD (x.cps.extract 0).size = _
        rw [hn]; simp
      · have hn : Array.findIdx? latin1Codec.bad (x.cps.extract 0) = none := by
          rw [Array.findIdx?_eq_none_iff]
          intro c hc
          have := h c (by simpa using hc)
          show decide (c ≥ 256) = false
          rw [decide_eq_false (by omega)]
        show Array.foldl (fun acc y => acc ++ (latin1Codec.bytesOf y).toArray) #[] ((x.cps.extract 0).extract 0 ((Array.findIdx? latin1Codec.bad (x.cps.extract 0)).getD (x.cps.extract 0).size)) = _
        rw [hn]
        simp only [Option.getD_none, Array.extract_size]
        rw [← Array.foldl_toList, foldl_latin]
        apply Array.toList_inj.mp
        simp
    · have hb1' : p = x.cps.size := hb1
      have hb2' : out = x.cps.map (·.toUInt8) := hb2
      subst hb1' hb2'
      dsimp only
      rw [if_neg (by rw [sizeLine_eq]; simp; omega), Array.getElem?_eq_none (Nat.le_refl _)]
      exact wpAny_pure ⟨rfl, rfl⟩
  · rintro ⟨p, out, st⟩ s' ⟨rfl, hb⟩
    refine ⟨rfl, ?_⟩
    rcases hb with ⟨hb1, hb2, hk⟩ | ⟨hb1, hb2⟩
    · have : x.cps = #[] := by
        have h1 : x.cps.size = 0 := hk.symm
        exact Array.eq_empty_of_size_eq_zero h1
      rw [this]; simpa using hb2
    · exact hb2
  · obtain ⟨p, out, st⟩ := b
    obtain ⟨rfl, hb⟩ := hb
    have hb' : out = x.cps.map (·.toUInt8) := hb
    subst hb'
    exact wpAny_pure hQ
theorem wp_dec {b : Array UInt8} {id : String} {held : List Value} (hz : b.size ≤ 100000) {Q : Array Nat × Nat → Shared → Prop} (hQ : Q (natsOf b, b.size) s) :
    wpAny (model prog w) A (runDecoder id latin1Decoder none true b 0 held) Q E s := by
  unfold runDecoder
  refine wpAny_bind (wpAny_mono (wpAny_forIn_range (β := Nat × Array Nat × Faults) _ (fun k b' s' => s' = s ∧ b'.1 + k = b.size ∧ b'.2.1.toList = (natsOf b).toList.take b'.1) (fun b' s' => s' = s ∧ b'.1 = b.size ∧ b'.2.1 = natsOf b) ?_ ?_ _ ⟨rfl, Nat.zero_add _, rfl⟩) (fun b' s' hb => ?_) fun _ _ x => x)
  · rintro i k ⟨p, out, st⟩ s' ⟨rfl, h1, h2⟩
    have h1' : p + (k + 1) = b.size := h1
    have h2' : out.toList = (natsOf b).toList.take p := h2
    have ho : out.size = p := by
      have := congrArg List.length h2'
      simp at this; omega
    dsimp only
    rw [if_neg (by rw [sizeLine_eq]; omega), if_neg (by omega)]
    refine wpAny_pure ⟨rfl, ?_, ?_⟩
    · show p + 1 + k = b.size; omega
    · show (out ++ [(b.getD p 0).toNat].toArray).toList = (natsOf b).toList.take (p + 1)
      have hp : p < b.size := by omega
      rw [Array.toList_append, h2', List.take_add_one]
      congr 1
      simp [natsOf, hp]
  · rintro ⟨p, out, st⟩ s' ⟨rfl, h1, h2⟩
    have h1' : p = b.size := h1
    refine ⟨rfl, h1', ?_⟩
    apply Array.toList_inj.mp
    have h2' : out.toList = (natsOf b).toList.take p := h2
    show out.toList = _
    rw [h2', h1', List.take_of_length_le (by simp)]
  · obtain ⟨p, out, st⟩ := b'
    obtain ⟨rfl, h1, h2⟩ := hb
    have h1' : p = b.size := h1
    have h2' : out = natsOf b := h2
    subst h1' h2'
    exact wpAny_pure hQ
end
end Mine

/- S18 -/
namespace Mine
open Builtin.Re Builtin Builtin._codecs

abbrev latin : Str := Str.ofString "latin-1"
abbrev byt (x : Str) : Array UInt8 := x.cps.map (·.toUInt8)
theorem road_latin {id : String} {b : Array UInt8} : decodeRoad id b latin none [] = (runDecoder id latin1Decoder none true b 0 [] >>= fun r => mkStr ⟨r.1⟩) := by kernel_rfl
theorem meets_text {b : Array UInt8} {t t1 t2 : Tok} {d : Str} (hz : b.size ≤ 100000) :
    Meets («_codecs.decode.text» ⟨[.bytes b t, .str latin t1, .none, .str d t2], []⟩) (fun _ R s => R (.ok (.ret (.str ⟨natsOf b⟩ s.toks))) { s with toks := s.toks + 1 }) := by
  refine .of_wp fun prog w A R s h => ?_
  show wpAny _ _ (Bytes.bytesLike _ (.bytes b t) >>= fun r => _) _ _ s
  refine wpAny_bind (wpAny_of_eq KBd.like_eq ?_)
  refine wpAny_bind (wpAny_of_eq KBd.held_eq ?_)
  show wpAny _ _ (decodeRoad _ b latin none [] >>= fun v => _) _ _ s
  rw [road_latin]
  refine wpAny_bind (wpAny_bind (wp_dec hz ?_))
  exact wpAny_mkStr (wpAny_pure ⟨_, rfl, h⟩) (by show (natsOf b).size ≤ _; rw [sizeLine_eq]; simp; omega)
theorem entry_latin {c : UInt8} {cs : List UInt8} {t u : Tok} : «bytes.decode» ⟨[.bytes (c :: cs).toArray t, .str latin u], []⟩ = (mkStr (PySem.Str.ofString "utf-8") >>= fun e0 => mkStr latin >>= fun e => mkStr (PySem.Str.ofString "bytes.decode") >>= fun d =>
    call (.builtin "_codecs.decode.text") [.bytes (c :: cs).toArray t, e, .none, d] >>= fun v => ret v) := by kernel_rfl
section
variable {c : Cx} {A : Around} {env : Env} {ns : List Str} {vals : List (Option D)} {bad : List Addr}
theorem bi_encode {x : Str} (h : ∀ c ∈ x.cps.toList, c < 256) (hz : x.cps.size ≤ 100000) : Bi c A bad (.builtin "str.encode") [.sc (.str x), .sc (.str latin)] (.sc (.bytes (byt x))) := by
  intro s vs G L p
  obtain ⟨v, u, rfl, h₁, h₂⟩ := paired2 p
  cases h₁
  obtain ⟨t, rfl⟩ : ∃ t, u = .str latin t := by
    have h₂' : ScR u (.str latin) := h₂
    cases h₂'; exact ⟨_, rfl⟩
  refine call_wp FR.slot_encode (typeIs_str _ _ _) FR.entry_encode (FR.args_encode _ _) ?_
  rw [encode_tree, encodeRoad_latin]
  refine wpAny_bind (wpAny_bind (wp_narrow h hz ?_))
  refine wpAny_mkBytes (wpAny_pure ⟨_, rfl, .bytes _ _, keeps_tok s _⟩) (by rw [sizeLine_eq]; simp; omega)
theorem bi_decode {b : Array UInt8} (hz : b.size ≤ 100000) (h0 : 0 < b.size) : Bi c A bad (.builtin "bytes.decode") [.sc (.bytes b), .sc (.str latin)] (.sc (.str ⟨natsOf b⟩)) := by
  intro s vs G L p
  obtain ⟨v, u, rfl, h₁, h₂⟩ := paired2 p
  cases h₁
  obtain ⟨t, rfl⟩ : ∃ t, u = .str latin t := by
    have h₂' : ScR u (.str latin) := h₂
    cases h₂'; exact ⟨_, rfl⟩
  obtain ⟨⟨l⟩⟩ := b
  · simp at h0
  · rename_i c cs
    refine call_wp FB.slot_bytes_decode (typeIs_bytes _ _ _) FB.entry_bytes_decode (FR.args_decode _ _) ?_
    rw [entry_latin]
    refine wpAny_bind (wpAny_mkStr ?_ (by decide))
    refine wpAny_bind (wpAny_mkStr ?_ (by decide))
    refine wpAny_bind (wpAny_mkStr ?_ (by decide))
    refine wpAny_bind (call_function_meets KBd.kind_text KBd.plain_text KBd.entry_text (KBd.args_text _ _ _ _) (meets_text hz) ?_)
    exact wpAny_pure ⟨_, rfl, .str _ _, s.heap, _, rfl, fun _ _ e => e⟩
end
end Mine

/- P1 -/
namespace Mine

/-! the reply's text, as lists of signs -/
def plainC (c : Nat) : Bool := decide (c < 256) && (c != 41 && (c != 32 && !(decide (9 ≤ c) && decide (c ≤ 13))))
structure WordOk (w : List Nat) : Prop where
  hd : ∃ w', w = 46 :: w'
  ok : ∀ c ∈ w, plainC c = true
def T0 : List Nat := [46, 70, 76, 65, 71, 83, 32, 40, 46, 120, 41, 32, 40, 70, 76, 65, 71, 83, 32, 40]
def lineE : List (List Nat) := [[10], [13], [13, 10]]
def blanks : List Nat := [32, 9, 11, 12]
def sepT (t i : Nat) (r : Bool) : List Nat := if r then lineE.getD ((t + i) % 3) [] else if 0 < i then [blanks.getD ((t + i) % 4) 0] else []
def sepD (t i : Nat) (r : Bool) : List Nat := if r then [13, 10, 46] else if 0 < i then [blanks.getD ((t + i) % 4) 0] else []
def segs (sep : Nat → List Nat) (ws : Nat → List Nat) (n : Nat) : List Nat := (List.range n).flatMap fun i => sep i ++ ws i
theorem segs_succ (sep : Nat → List Nat) (ws : Nat → List Nat) (n : Nat) : segs sep ws (n + 1) = segs sep ws n ++ (sep n ++ ws n) := by
  unfold segs
  rw [List.range_succ, List.flatMap_append]
  simp
def endT (t : Nat) : List Nat := [[], [32], [13]].getD (t % 3) []
def endD (t : Nat) : List Nat := [[], [32], [13, 10]].getD (t % 3) []
def tailT : List Nat := [41, 41, 13, 13, 10, 70, 76, 65, 71, 83, 32, 40, 46, 121, 41]
def tailD : List Nat := [41, 41, 13, 10, 13, 10, 70, 76, 65, 71, 83, 32, 40, 46, 121, 41]

/-- dots and line ends together -/
def qq (b : Bool) (l : List Nat) : List Nat := dotL b (crlfL l)
theorem plain_brk {c : Nat} (h : plainC c = true) : brk c = false := by
  simp only [plainC, Bool.and_eq_true, decide_eq_true_eq, bne_iff_ne, Bool.not_eq_true', Bool.and_eq_false_iff, decide_eq_false_iff_not] at h
  unfold brk
  simp only [Bool.or_eq_false_iff, beq_eq_false_iff_ne]
  omega
theorem qq_plain {c : Nat} {r : List Nat} {b : Bool} (h : brk c = false) (hb : (b && c == 46) = false) : qq b (c :: r) = c :: qq false r := by
  unfold qq
  rw [crlf_plain h, dotL, hb]
  have : (c == 10) = false := by
    unfold brk at h
    simp only [Bool.or_eq_false_iff] at h
    exact h.1
  rw [this]
  rfl
theorem qq_run : ∀ (l : List Nat) {r : List Nat}, (∀ c ∈ l, brk c = false) → qq false (l ++ r) = l ++ qq false r
  | [], r, _ => rfl
  | c :: l, r, h => by
    rw [List.cons_append, qq_plain (h c (.head _)) rfl, qq_run l fun d hd => h d (.tail _ hd)]
    rfl
theorem qq_dot {r : List Nat} : qq true (46 :: r) = 46 :: 46 :: qq false r := by
  unfold qq
  rw [crlf_plain (by rfl), dotL]
  rfl
theorem dot_end (b : Bool) (r : List Nat) : dotL b (13 :: 10 :: r) = 13 :: 10 :: dotL true r := by
  rw [dotL, dotL]
  cases b <;> rfl
theorem qq_lf {b : Bool} {r : List Nat} : qq b (10 :: r) = 13 :: 10 :: qq true r := by
  unfold qq
  rw [← dot_end b]
  congr 1
  cases r with
  | nil => rfl
  | cons d r => rw [crlfL, if_pos (by rfl), if_neg (by rintro ⟨h, _⟩; cases h)]
theorem qq_crlf {b : Bool} {r : List Nat} : qq b (13 :: 10 :: r) = 13 :: 10 :: qq true r := by
  unfold qq
  rw [← dot_end b, crlfL, if_pos (by rfl), if_pos ⟨rfl, rfl⟩]
theorem qq_cr {b : Bool} {c : Nat} {r : List Nat} (h : c ≠ 10) : qq b (13 :: c :: r) = 13 :: 10 :: qq true (c :: r) := by
  unfold qq
  rw [← dot_end b, crlfL, if_pos (by rfl), if_neg (fun z => h z.2)]
theorem lineE_cases (k : Nat) : lineE.getD (k % 3) [] = [10] ∨ lineE.getD (k % 3) [] = [13] ∨ lineE.getD (k % 3) [] = [13, 10] := by
  have : k % 3 = 0 ∨ k % 3 = 1 ∨ k % 3 = 2 := by omega
  rcases this with h | h | h <;> rw [h] <;> simp [lineE]
theorem blanks_cases (k : Nat) : blanks.getD (k % 4) 0 = 32 ∨ blanks.getD (k % 4) 0 = 9 ∨ blanks.getD (k % 4) 0 = 11 ∨ blanks.getD (k % 4) 0 = 12 := by
  have : k % 4 = 0 ∨ k % 4 = 1 ∨ k % 4 = 2 ∨ k % 4 = 3 := by omega
  rcases this with h | h | h | h <;> rw [h] <;> simp [blanks]
theorem qq_word {w r : List Nat} (h : WordOk w) : qq false (w ++ r) = w ++ qq false r := qq_run w fun c hc => plain_brk (h.ok c hc)
theorem qq_wordB {w r : List Nat} (h : WordOk w) : qq true (w ++ r) = 46 :: (w ++ qq false r) := by
  obtain ⟨w', rfl⟩ := h.hd
  rw [List.cons_append, qq_dot, qq_run w' fun c hc => plain_brk (h.ok c (.tail _ hc))]
  rfl
theorem qq_seg {t i : Nat} {rf : Bool} {w r : List Nat} (h : WordOk w) : qq false (sepT t i rf ++ w ++ r) = sepD t i rf ++ w ++ qq false r := by
  unfold sepT sepD
  rw [List.append_assoc, List.append_assoc]
  cases rf with
  | true =>
    rw [if_pos rfl, if_pos rfl]
    obtain ⟨w', hw⟩ := h.hd
    rcases lineE_cases (t + i) with e | e | e <;> rw [e]
    · show qq false (10 :: (w ++ r)) = _
      rw [qq_lf, qq_wordB h]; rfl
    · show qq false (13 :: (w ++ r)) = _
      rw [hw, List.cons_append, qq_cr (by decide)]
      have := qq_wordB (r := r) h
      rw [hw] at this
      rw [← List.cons_append, this]; rfl
    · show qq false (13 :: 10 :: (w ++ r)) = _
      rw [qq_crlf, qq_wordB h]; rfl
  | false =>
    simp only [Bool.false_eq_true, if_false]
    by_cases hi : 0 < i
    · rw [if_pos hi]
      have hb : brk (blanks.getD ((t + i) % 4) 0) = false := by rcases blanks_cases (t + i) with e | e | e | e <;> rw [e] <;> rfl
      show qq false (blanks.getD ((t + i) % 4) 0 :: (w ++ r)) = _
      rw [qq_plain hb rfl, qq_word h]; rfl
    · rw [if_neg hi]
      show qq false (w ++ r) = _
      rw [qq_word h]; rfl
theorem qq_segs {t : Nat} {rf : Nat → Bool} {ws : Nat → List Nat} : ∀ (n : Nat) {r : List Nat}, (∀ i, i < n → WordOk (ws i)) → qq false (segs (fun i => sepT t i (rf i)) ws n ++ r) = segs (fun i => sepD t i (rf i)) ws n ++ qq false r
  | 0, r, _ => rfl
  | n + 1, r, h => by
    rw [segs_succ, segs_succ, List.append_assoc, qq_segs n fun i hi => h i (by omega)]
    have := qq_seg (t := t) (i := n) (rf := rf n) (r := r) (h n (by omega))
    rw [this]
    simp only [List.append_assoc]
theorem end_cases (t : Nat) : (endT t = [] ∧ endD t = []) ∨ (endT t = [32] ∧ endD t = [32]) ∨ (endT t = [13] ∧ endD t = [13, 10]) := by
  unfold endT endD
  have : t % 3 = 0 ∨ t % 3 = 1 ∨ t % 3 = 2 := by omega
  rcases this with h | h | h <;> rw [h] <;> simp
theorem qq_end (t : Nat) : qq false (endT t ++ tailT) = endD t ++ tailD := by
  rcases end_cases t with ⟨h1, h2⟩ | ⟨h1, h2⟩ | ⟨h1, h2⟩ <;> rw [h1, h2] <;> decide +kernel
def fullT (t : Nat) (rf : Nat → Bool) (ws : Nat → List Nat) : List Nat := T0 ++ (segs (fun i => sepT t i (rf i)) ws 4 ++ (endT t ++ tailT))
def midD (t : Nat) (rf : Nat → Bool) (ws : Nat → List Nat) : List Nat := segs (fun i => sepD t i (rf i)) ws 4 ++ endD t
def fullD (t : Nat) (rf : Nat → Bool) (ws : Nat → List Nat) : List Nat := 46 :: (T0 ++ (midD t rf ws ++ tailD))
theorem quote_full {t : Nat} {rf : Nat → Bool} {ws : Nat → List Nat} (h : ∀ i, i < 4 → WordOk (ws i)) : quoteL (fullT t rf ws) = fullD t rf ws := by
  show qq true (fullT t rf ws) = _
  unfold fullT fullD midD T0
  rw [List.cons_append, qq_dot, qq_run _ (by decide), qq_segs 4 h, qq_end]
  simp

/-! no blank ahead of a bracket -/
def okp : Bool → List Nat → Bool
  | _, [] => true
  | b, c :: r => !(b && c == 40) && okp (c == 32) r
theorem okp_pair : ∀ (l : List Nat) (b : Bool), okp b l = true → ∀ j, l.getD j 0 = 32 → l.getD (j + 1) 0 ≠ 40
  | [], _, _, j, h => by simp at h
  | c :: r, b, hk, 0, h => by
    unfold okp at hk
    rw [Bool.and_eq_true] at hk
    have hc : c = 32 := h
    subst hc
    cases r with
    | nil => intro q; exact absurd (show (0 : Nat) = 40 from q) (by decide)
    | cons d r =>
      intro q
      have hd : d = 40 := q
      subst hd
      exact absurd hk.2 (by simp [okp])
  | c :: r, b, hk, j + 1, h => by
    unfold okp at hk
    rw [Bool.and_eq_true] at hk
    exact okp_pair r _ hk.2 j h
theorem okp_run : ∀ (l : List Nat) {r : List Nat}, (∀ c ∈ l, c ≠ 32) → okp false (l ++ r) = okp false r
  | [], r, _ => rfl
  | c :: l, r, h => by
    rw [List.cons_append, okp]
    have : (c == 32) = false := beq_eq_false_iff_ne.mpr (h c (.head _))
    rw [this, okp_run l fun d hd => h d (.tail _ hd)]
    rfl
theorem plain_ne {c : Nat} (h : plainC c = true) : c < 256 ∧ c ≠ 41 ∧ c ≠ 32 ∧ ¬ (9 ≤ c ∧ c ≤ 13) := by
  simp only [plainC, Bool.and_eq_true, decide_eq_true_eq, bne_iff_ne, Bool.not_eq_true', Bool.and_eq_false_iff, decide_eq_false_iff_not] at h
  omega
theorem okp_word {w r : List Nat} {b : Bool} (h : WordOk w) : okp b (w ++ r) = okp false r := by
  obtain ⟨w', rfl⟩ := h.hd
  rw [List.cons_append, okp]
  have := okp_run w' (r := r) fun c hc => (plain_ne (h.ok c (.tail _ hc))).2.2.1
  rw [show ((46 : Nat) == 32) = false from rfl, this]
  cases b <;> rfl
theorem okp_seg {t i : Nat} {rf : Bool} {w r : List Nat} (h : WordOk w) : okp false (sepD t i rf ++ w ++ r) = okp false r := by
  unfold sepD
  rw [List.append_assoc]
  cases rf with
  | true =>
    rw [if_pos rfl]
    show okp false (13 :: 10 :: 46 :: (w ++ r)) = _
    have := okp_word (b := false) (r := r) h
    simp [okp, this]
  | false =>
    rw [if_neg (by decide)]
    by_cases hi : 0 < i
    · rw [if_pos hi]
      show okp false (blanks.getD ((t + i) % 4) 0 :: (w ++ r)) = _
      rw [okp, okp_word h]; rfl
    · rw [if_neg hi]
      exact okp_word h
theorem okp_segs {t : Nat} {rf : Nat → Bool} {ws : Nat → List Nat} : ∀ (n : Nat) {r : List Nat}, (∀ i, i < n → WordOk (ws i)) → okp false (segs (fun i => sepD t i (rf i)) ws n ++ r) = okp false r
  | 0, r, _ => rfl
  | n + 1, r, h => by
    rw [segs_succ, List.append_assoc, okp_segs n fun i hi => h i (by omega)]
    exact okp_seg (h n (by omega))
theorem okp_mid {t : Nat} {rf : Nat → Bool} {ws : Nat → List Nat} (h : ∀ i, i < 4 → WordOk (ws i)) : okp false (midD t rf ws ++ [41, 41, 13, 10, 13, 10]) = true := by
  unfold midD
  rw [List.append_assoc, okp_segs 4 h]
  rcases end_cases t with ⟨h1, h2⟩ | ⟨h1, h2⟩ | ⟨h1, h2⟩ <;> rw [h2] <;> decide

/-! no closing bracket, all signs small -/
theorem sep_mem {t i : Nat} {rf : Bool} {c : Nat} (h : c ∈ sepD t i rf) : c < 256 ∧ c ≠ 41 := by
  unfold sepD at h
  cases rf with
  | true => rw [if_pos rfl] at h; simp at h; omega
  | false =>
    rw [if_neg (by decide)] at h
    split at h
    · have := blanks_cases (t + i)
      rw [List.mem_singleton] at h
      omega
    · cases h
theorem mid_mem {t : Nat} {rf : Nat → Bool} {ws : Nat → List Nat} (h : ∀ i, i < 4 → WordOk (ws i)) {c : Nat} (hc : c ∈ midD t rf ws) : c < 256 ∧ c ≠ 41 := by
  unfold midD segs at hc
  rcases List.mem_append.mp hc with q | q
  · obtain ⟨i, hi, q⟩ := List.mem_flatMap.mp q
    rcases List.mem_append.mp q with q | q
    · exact sep_mem q
    · have := plain_ne ((h i (by simpa using hi)).ok c q)
      exact ⟨this.1, this.2.1⟩
  · rcases end_cases t with ⟨h1, h2⟩ | ⟨h1, h2⟩ | ⟨h1, h2⟩ <;> rw [h2] at q <;> simp at q <;> omega
theorem full_mem {t : Nat} {rf : Nat → Bool} {ws : Nat → List Nat} (h : ∀ i, i < 4 → WordOk (ws i)) {c : Nat} (hc : c ∈ fullD t rf ws) : c < 256 := by
  unfold fullD at hc
  rcases List.mem_cons.mp hc with rfl | hc
  · decide
  · rcases List.mem_append.mp hc with q | q
    · have : ∀ c ∈ T0, c < 256 := by decide
      exact this c q
    · rcases List.mem_append.mp q with q | q
      · exact (mid_mem h q).1
      · have : ∀ c ∈ tailD, c < 256 := by decide
        exact this c q
end Mine

/- P2 -/
namespace Mine
open Builtin

abbrev S (l : List Nat) : Str := ⟨l.toArray⟩
theorem byt_S (l : List Nat) : byt (S l) = (l.map (·.toUInt8)).toArray := by simp [byt]
theorem nats_byt {l : List Nat} (h : ∀ c ∈ l, c < 256) : natsOf (byt (S l)) = l.toArray := by
  apply Array.toList_inj.mp
  simp only [natsOf, byt, Array.toList_map, List.map_map]
  conv => rhs; rw [← List.map_id l]
  apply List.map_congr_left
  intro c hc
  have := h c hc
  show (Nat.toUInt8 c).toNat = c
  simp only [Nat.toUInt8, UInt8.toNat_ofNat']
  omega
theorem getD_arr (l : List Nat) (i : Nat) : l.toArray.getD i 0 = l.getD i 0 := by
  rw [Array.getD_eq_getD_getElem?, List.getD_eq_getElem?_getD]; simp
theorem litsAt_iff (l : List Nat) : ∀ (cs : List Nat) (q : Nat), litsAt l.toArray l.length q cs = true ↔ ∀ j, j < cs.length → q + j < l.length ∧ l.getD (q + j) 0 = cs.getD j 0
  | [], q => by simp [litsAt]
  | c :: cs, q => by
    unfold litsAt
    rw [Bool.and_eq_true, Bool.and_eq_true, litsAt_iff l cs (q + 1), getD_arr, decide_eq_true_eq, beq_iff_eq]
    constructor
    · rintro ⟨h1, h2, h3⟩ j hj
      cases j with
      | zero => exact ⟨h1, h2⟩
      | succ j =>
        have := h3 j (by simpa using hj)
        rw [show q + (j + 1) = q + 1 + j by omega]
        exact this
    · intro h
      refine ⟨(h 0 (by simp)).1, (h 0 (by simp)).2, fun j hj => ?_⟩
      have := h (j + 1) (by simpa using hj)
      rw [show q + 1 + j = q + (j + 1) by omega]
      exact this
theorem first10 (l : List Nat) : ∀ z, l.getD z 0 = 10 → ∃ L, L ≤ z ∧ (∀ j, j < L → l.getD j 0 ≠ 10) ∧ l.getD L 0 = 10 := by
  intro z
  induction z using Nat.strongRecOn with
  | _ z ih =>
    intro hz
    by_cases h : ∃ j, j < z ∧ l.getD j 0 = 10
    · obtain ⟨j, hj, e⟩ := h
      obtain ⟨L, h1, h2, h3⟩ := ih j hj e
      exact ⟨L, by omega, h2, h3⟩
    · exact ⟨z, Nat.le_refl _, fun j hj e => h ⟨j, hj, e⟩, hz⟩
theorem getD_left {l r : List Nat} {i : Nat} (h : i < l.length) : (l ++ r).getD i 0 = l.getD i 0 := by
  rw [List.getD_eq_getElem?_getD, List.getD_eq_getElem?_getD, List.getElem?_append_left h]
theorem getD_right {l r : List Nat} (i : Nat) : (l ++ r).getD (l.length + i) 0 = r.getD i 0 := by
  rw [List.getD_eq_getElem?_getD, List.getD_eq_getElem?_getD, List.getElem?_append_right (by omega)]
  congr 2
  omega
def P20 : List Nat := [46, 46, 70, 76, 65, 71, 83, 32, 40, 46, 120, 41, 32, 40, 70, 76, 65, 71, 83, 32]

theorem match_full {t : Nat} {rf : Nat → Bool} {ws : Nat → List Nat} (h : ∀ i, i < 4 → WordOk (ws i)) (hz : (fullD t rf ws).length ≤ 5000) :
    ∃ k, k ≤ 2 ^ 60 ∧ Wr k (Sre.forMatch codeF (fullD t rf ws).toArray 1 0 (fullD t rf ws).toArray.size false false) (.yes 0 (21 + (midD t rf ws).length + 1) #[some 21, some (21 + (midD t rf ws).length)] 1) := by
  have hD : fullD t rf ws = P20 ++ (40 :: (midD t rf ws ++ tailD)) := by unfold fullD P20 T0; simp
  have hD2 : fullD t rf ws = P20 ++ ((40 :: (midD t rf ws ++ [41, 41, 13, 10, 13, 10])) ++ [70, 76, 65, 71, 83, 32, 40, 46, 121, 41]) := by rw [hD]; simp [tailD]
  have hlen : (fullD t rf ws).length = 20 + (1 + ((midD t rf ws).length + 16)) := by rw [hD]; simp [P20, tailD]; omega
  have hmem : ∀ c ∈ midD t rf ws, c ≠ 41 := fun c hc => (mid_mem h hc).2
  have hok := okp_mid (t := t) (rf := rf) h
  generalize hm : midD t rf ws = mid at *
  generalize fullD t rf ws = D at *
  have hB : okp false (40 :: (mid ++ [41, 41, 13, 10, 13, 10])) = true := by
    rw [okp, show ((40 : Nat) == 32) = false from rfl, hok]; rfl
  have atB : ∀ i, i < 1 + (mid.length + 6) → D.getD (20 + i) 0 = (40 :: (mid ++ [41, 41, 13, 10, 13, 10])).getD i 0 := fun i hi => by
    rw [hD2, show (20 + i) = P20.length + i from rfl, getD_right, getD_left (by simp; omega)]
  have atM : ∀ i, i < mid.length → D.getD (21 + i) 0 = mid.getD i 0 := fun i hi => by
    rw [show 21 + i = 20 + (1 + i) by omega, atB (1 + i) (by omega), show 1 + i = i + 1 by omega]
    show (mid ++ _).getD i 0 = _
    exact getD_left hi
  have atE : D.getD (21 + mid.length) 0 = 41 := by
    rw [show 21 + mid.length = 20 + (1 + mid.length) by omega, atB (1 + mid.length) (by omega), show 1 + mid.length = mid.length + 1 by omega]
    show (mid ++ _).getD mid.length 0 = _
    have := getD_right (l := mid) (r := [41, 41, 13, 10, 13, 10]) 0
    exact this
  have at10 : D.getD (20 + (mid.length + 6)) 0 = 10 := by
    rw [atB _ (by omega)]
    show (mid ++ _).getD (mid.length + 5) 0 = _
    exact getD_right (l := mid) (r := [41, 41, 13, 10, 13, 10]) 5
  have atP : ∀ i, i < 21 → D.getD i 0 = (P20 ++ [40]).getD i 0 := fun i hi => by
    rw [hD, show P20 ++ 40 :: (mid ++ tailD) = (P20 ++ [40]) ++ (mid ++ tailD) by simp, getD_left (by simpa [P20] using hi)]
  have noP : ∀ i, i < 21 → (P20 ++ [40]).getD i 0 ≠ 10 := by decide
  obtain ⟨L, hL1, hL2, hL3⟩ := first10 D _ at10
  have hL21 : 21 ≤ L := by
    rcases Nat.lt_or_ge L 21 with q | q
    · exact absurd (atP L q ▸ hL3) (noP L q)
    · exact q
  have hsz : D.toArray.size = D.length := by simp
  rw [hsz]
  refine ⟨21 + 8 * L, by omega, matchF (L := L) (p := 14) (m := mid.length) (by omega) (by omega) (fun j hj => by rw [getD_arr]; exact hL2 j hj) (.inr ⟨by omega, by rw [getD_arr]; exact hL3⟩) (by omega) ?_ ?_ ?_ (by omega) ?_⟩
  · rw [litsAt_iff]
    intro j hj
    have hj' : j < 7 := hj
    refine ⟨by omega, ?_⟩
    rw [atP _ (by omega)]
    have : ∀ j, j < 7 → (P20 ++ [40]).getD (14 + j) 0 = flg.getD j 0 := by decide
    exact this j hj'
  · intro q h1 h2
    rw [Bool.eq_false_iff]
    intro hq
    rw [litsAt_iff] at hq
    have hq' : ∀ j, j < 7 → q + j < D.length ∧ D.getD (q + j) 0 = flg.getD j 0 := hq
    have hfl : ∀ j, j < 7 → flg.getD j 0 ≠ 10 := by decide
    have hgap : q + 7 ≤ L := by
      rcases Nat.lt_or_ge L (q + 7) with z | z
      · exfalso
        have := (hq' (L - q) (by omega)).2
        rw [show q + (L - q) = L by omega, hL3] at this
        exact hfl _ (by omega) this.symm
      · exact z
    have h5 := (hq' 5 (by omega)).2
    have h6 := (hq' 6 (by omega)).2
    have e5 : D.getD (q + 5) 0 = (40 :: (mid ++ [41, 41, 13, 10, 13, 10])).getD (q - 15) 0 := by rw [← atB (q - 15) (by omega)]; congr 1; omega
    have e6 : D.getD (q + 6) 0 = (40 :: (mid ++ [41, 41, 13, 10, 13, 10])).getD (q - 15 + 1) 0 := by rw [← atB (q - 15 + 1) (by omega)]; congr 1; omega
    rw [e5] at h5
    rw [e6] at h6
    exact okp_pair _ _ hB _ h5 h6
  · intro j hj
    rw [getD_arr, show 14 + 7 + j = 21 + j by omega, atM j hj]
    exact hmem _ (getD_mem 0 hj)
  · rw [getD_arr]; exact atE

/-! the words -/
theorem space_eq : ∀ c, c < 256 → Bytes.isSpace (Nat.toUInt8 c) = (c == 32 || (decide (9 ≤ c) && decide (c ≤ 13))) := by
  have h : ∀ c : Fin 256, Bytes.isSpace (Nat.toUInt8 c.val) = (c.val == 32 || (decide (9 ≤ c.val) && decide (c.val ≤ 13))) := by decide +kernel
  exact fun c hc => h ⟨c, hc⟩
theorem dropWhile_all {p : UInt8 → Bool} : ∀ {l r : List UInt8}, (∀ c ∈ l, p c = true) → (l ++ r).dropWhile p = r.dropWhile p
  | [], r, _ => rfl
  | c :: l, r, h => by
    rw [List.cons_append, List.dropWhile_cons, if_pos (h c (.head _)), dropWhile_all fun d hd => h d (.tail _ hd)]
theorem takeWhile_all {p : UInt8 → Bool} : ∀ {l r : List UInt8}, (∀ c ∈ l, p c = true) → (l ++ r).takeWhile p = l ++ r.takeWhile p
  | [], r, _ => rfl
  | c :: l, r, h => by
    rw [List.cons_append, List.takeWhile_cons, if_pos (h c (.head _)), takeWhile_all fun d hd => h d (.tail _ hd)]
    rfl
/-- r ends or goes on with a blank -/
def Stops (r : List UInt8) : Prop := r = [] ∨ ∃ c r', r = c :: r' ∧ Bytes.isSpace c = true
theorem words_step {f l : Nat} {sp w r : List UInt8} (h1 : ∀ c ∈ sp, Bytes.isSpace c = true) (h2 : ∀ c ∈ w, Bytes.isSpace c = false) (h0 : w ≠ []) (h3 : Stops r) :
    Bytes.words (f + 1) (l + 1) (sp ++ (w ++ r)) = w :: Bytes.words f l r := by
  have e1 : (sp ++ (w ++ r)).dropWhile Bytes.isSpace = w ++ r := by
    rw [dropWhile_all h1]
    cases w with
    | nil => exact absurd rfl h0
    | cons c w => rw [List.cons_append, List.dropWhile_cons, if_neg (by rw [h2 c (.head _)]; decide)]
  have e2 : (w ++ r).takeWhile (fun c => !Bytes.isSpace c) = w := by
    rw [takeWhile_all fun c hc => by rw [h2 c hc]; rfl]
    rcases h3 with rfl | ⟨c, r', rfl, hc⟩
    · simp
    · rw [List.takeWhile_cons, if_neg (by rw [hc]; decide)]; simp
  have e3 : (w ++ r).dropWhile (fun c => !Bytes.isSpace c) = r := by
    rw [dropWhile_all fun c hc => by rw [h2 c hc]; rfl]
    rcases h3 with rfl | ⟨c, r', rfl, hc⟩
    · simp
    · rw [List.dropWhile_cons, if_neg (by rw [hc]; decide)]
  conv => lhs; unfold Bytes.words
  rw [e1]
  cases w with
  | nil => exact absurd rfl h0
  | cons c w =>
    show (if (l + 1 == 0) = true then _ else _) = _
    rw [if_neg (by simp)]
    rw [e2, e3]
    rfl
theorem words_end {f l : Nat} {sp : List UInt8} (h1 : ∀ c ∈ sp, Bytes.isSpace c = true) : Bytes.words (f + 1) l sp = [] := by
  unfold Bytes.words
  have := dropWhile_all (r := []) h1
  rw [List.append_nil] at this
  rw [this]
  rfl
end Mine

/- P3 -/
namespace Mine
open Builtin

abbrev u8 (l : List Nat) : List UInt8 := l.map (·.toUInt8)
def newW (rf : Bool) (w : List Nat) : List Nat := if rf then 46 :: w else w
def spc (t i : Nat) (r : Bool) : List Nat := if r then [13, 10] else if 0 < i then [blanks.getD ((t + i) % 4) 0] else []
theorem sep_spc (t i : Nat) (r : Bool) (w : List Nat) : sepD t i r ++ w = spc t i r ++ newW r w := by
  unfold sepD spc newW
  cases r <;> simp
theorem newW_ok {r : Bool} {w : List Nat} (h : WordOk w) : WordOk (newW r w) := by
  unfold newW
  cases r with
  | false => exact h
  | true =>
    refine ⟨⟨w, rfl⟩, fun c hc => ?_⟩
    rcases List.mem_cons.mp hc with rfl | hc
    · rfl
    · exact h.ok c hc
theorem space_spc {t i : Nat} {r : Bool} : ∀ c ∈ u8 (spc t i r), Bytes.isSpace c = true := by
  unfold spc
  cases r with
  | true => simp only [if_true]; decide +kernel
  | false =>
    simp only [Bool.false_eq_true, if_false]
    split
    · rcases blanks_cases (t + i) with e | e | e | e <;> rw [e] <;> decide +kernel
    · intro c hc; cases hc
theorem space_end {t : Nat} : ∀ c ∈ u8 (endD t), Bytes.isSpace c = true := by
  rcases end_cases t with ⟨h1, h2⟩ | ⟨h1, h2⟩ | ⟨h1, h2⟩ <;> rw [h2] <;> decide +kernel
theorem nospace_word {w : List Nat} (h : WordOk w) : ∀ c ∈ u8 w, Bytes.isSpace c = false := by
  intro c hc
  obtain ⟨d, hd, rfl⟩ := List.mem_map.mp hc
  have := plain_ne (h.ok d hd)
  rw [space_eq d this.1]
  simp only [Bool.or_eq_false_iff, beq_eq_false_iff_ne, Bool.and_eq_false_iff, decide_eq_false_iff_not]
  omega
theorem word_ne {w : List Nat} (h : WordOk w) : u8 w ≠ [] := by
  obtain ⟨w', rfl⟩ := h.hd
  simp [u8]
theorem stops_spc {t i : Nat} {r : Bool} {l : List UInt8} (hi : 0 < i) : Stops (u8 (spc t i r) ++ l) := by
  have hs := space_spc (t := t) (i := i) (r := r)
  have hne : spc t i r ≠ [] := by
    unfold spc
    cases r <;> simp <;> omega
  cases e : u8 (spc t i r) with
  | nil =>
    exfalso
    apply hne
    simpa [u8] using e
  | cons c m => exact .inr ⟨c, m ++ l, rfl, hs c (by rw [e]; exact .head _)⟩
theorem stops_end {t : Nat} : Stops (u8 (endD t)) := by
  rcases end_cases t with ⟨h1, h2⟩ | ⟨h1, h2⟩ | ⟨h1, h2⟩ <;> rw [h2]
  · exact .inl rfl
  · exact .inr ⟨32, [], rfl, by decide +kernel⟩
  · exact .inr ⟨13, [10], rfl, by decide +kernel⟩
theorem segs4 (sep ws : Nat → List Nat) : segs sep ws 4 = (sep 0 ++ ws 0) ++ ((sep 1 ++ ws 1) ++ ((sep 2 ++ ws 2) ++ (sep 3 ++ ws 3))) := by
  unfold segs
  simp [List.range, List.range.loop]
theorem mid_eq (t : Nat) (rf : Nat → Bool) (ws : Nat → List Nat) : midD t rf ws = spc t 0 (rf 0) ++ (newW (rf 0) (ws 0) ++ (spc t 1 (rf 1) ++ (newW (rf 1) (ws 1) ++ (spc t 2 (rf 2) ++ (newW (rf 2) (ws 2) ++ (spc t 3 (rf 3) ++ (newW (rf 3) (ws 3) ++ endD t))))))) := by
  unfold midD
  rw [segs4]
  simp only [sep_spc, List.append_assoc]
theorem words_mid {t : Nat} {rf : Nat → Bool} {ws : Nat → List Nat} (h : ∀ i, i < 4 → WordOk (ws i)) (f l : Nat) :
    Bytes.words (f + 5) (l + 5) (u8 (midD t rf ws)) = (List.range 4).map fun i => u8 (newW (rf i) (ws i)) := by
  have W := fun i hi => newW_ok (r := rf i) (h i hi)
  rw [mid_eq]
  simp only [u8, List.map_append]
  rw [words_step (f := f + 4) (l := l + 4) space_spc (nospace_word (W 0 (by omega))) (word_ne (W 0 (by omega))) (stops_spc (by omega)),
    words_step (f := f + 3) (l := l + 3) space_spc (nospace_word (W 1 (by omega))) (word_ne (W 1 (by omega))) (stops_spc (by omega)),
    words_step (f := f + 2) (l := l + 2) space_spc (nospace_word (W 2 (by omega))) (word_ne (W 2 (by omega))) (stops_spc (by omega)),
    words_step (f := f + 1) (l := l + 1) space_spc (nospace_word (W 3 (by omega))) (word_ne (W 3 (by omega))) stops_end,
    words_end space_end]
  rfl
theorem mid_len {t : Nat} {rf : Nat → Bool} {ws : Nat → List Nat} (h : ∀ i, i < 4 → WordOk (ws i)) : 4 ≤ (midD t rf ws).length := by
  have W : ∀ i, i < 4 → 1 ≤ (newW (rf i) (ws i)).length := fun i hi => by
    obtain ⟨w', e⟩ := (newW_ok (r := rf i) (h i hi)).hd
    rw [e]; simp
  have h0 := W 0 (by omega)
  have h1 := W 1 (by omega)
  have h2 := W 2 (by omega)
  have h3 := W 3 (by omega)
  rw [mid_eq]
  simp only [List.length_append]
  omega

section
variable {c : Cx} {A : Around} {pm cd doc : Value}
theorem parse_full (hA : AN A 1) (f : FOk c) (F : FnOk c 43 (fdOf 3 pm cd doc) (bodyOf (defSt 3))) {t : Nat} {rf : Nat → Bool} {ws : Nat → List Nat} (h : ∀ i, i < 4 → WordOk (ws i)) (hl : ∀ i, i < 4 → (ws i).length ≤ 200) (hz : (fullD t rf ws).length ≤ 5000) :
    Bi c A [] (.ref 43) [.sc (.bytes (byt (S (fullD t rf ws))))] (.tuple (sBytes ((List.range 4).map fun i => byt (S (newW (rf i) (ws i)))))) := by
  have hm : ∀ c ∈ fullD t rf ws, c < 256 := fun c hc => full_mem h hc
  obtain ⟨k, hk, x⟩ := match_full (t := t) (rf := rf) h hz
  rw [← nats_byt hm] at x
  have hext : ((byt (S (fullD t rf ws))).extract 21 (21 + (midD t rf ws).length)).toList = u8 (midD t rf ws) := by
    rw [byt_S, Array.toList_extract]
    have e : fullD t rf ws = (P20 ++ [40]) ++ (midD t rf ws ++ tailD) := by unfold fullD P20 T0; simp
    have hP : (u8 (P20 ++ [40])).length = 21 := rfl
    show (((fullD t rf ws).map (·.toUInt8)).drop 21).take (21 + (midD t rf ws).length - 21) = _
    have e2 : (fullD t rf ws).map (·.toUInt8) = u8 (P20 ++ [40]) ++ (u8 (midD t rf ws) ++ u8 tailD) := by rw [e]; simp only [u8, List.map_append]
    rw [e2, List.drop_left' hP]
    exact List.take_left' (by simp)
  have hsz : ((byt (S (fullD t rf ws))).extract 21 (21 + (midD t rf ws).length)).size = (midD t rf ws).length := by
    have := congrArg List.length hext
    rw [Array.length_toList] at this
    rw [this]; simp [u8]
  have h4 := mid_len (t := t) (rf := rf) h
  have hw : Bytes.words (((byt (S (fullD t rf ws))).extract 21 (21 + (midD t rf ws).length)).size + 1) (((byt (S (fullD t rf ws))).extract 21 (21 + (midD t rf ws).length)).size + 1) ((byt (S (fullD t rf ws))).extract 21 (21 + (midD t rf ws).length)).toList = (List.range 4).map fun i => u8 (newW (rf i) (ws i)) := by
    rw [hext, hsz, show (midD t rf ws).length + 1 = (midD t rf ws).length - 4 + 5 by omega]
    exact words_mid h _ _
  have hlen : ∀ i, i < 4 → (newW (rf i) (ws i)).length ≤ 201 := fun i hi => by
    have := hl i hi
    unfold newW
    split
    · simp; omega
    · omega
  have := parse_yes hA f F (b := byt (S (fullD t rf ws))) (p := 21) (e := 21 + (midD t rf ws).length) (by simp [byt]; omega) hk (by omega) x hw ?_ (by simp) ?_
  · rw [List.map_map] at this
    have e : (List.range 4).map ((fun x : List UInt8 => x.toArray) ∘ fun i => u8 (newW (rf i) (ws i))) = (List.range 4).map fun i => byt (S (newW (rf i) (ws i))) := by
      apply List.map_congr_left
      intro i _
      simp [byt_S]
    rw [e] at this
    exact this
  · rw [← Array.any_toList, hext, List.any_eq_true]
    have hs := space_spc (t := t) (i := 1) (r := rf 1)
    have hst := stops_spc (t := t) (i := 1) (r := rf 1) (l := []) (by omega)
    rw [List.append_nil] at hst
    have hne : u8 (spc t 1 (rf 1)) ≠ [] := by
      unfold spc
      cases rf 1 <;> simp [u8]
    cases e : u8 (spc t 1 (rf 1)) with
    | nil => exact absurd e hne
    | cons d m =>
      refine ⟨d, ?_, hs d (by rw [e]; exact .head _)⟩
      rw [mid_eq]
      simp only [u8, List.map_append, List.mem_append]
      have : d ∈ u8 (spc t 1 (rf 1)) := by rw [e]; exact .head _
      exact .inr (.inr (.inl this))
  · intro x hx
    obtain ⟨i, hi, rfl⟩ := List.mem_map.mp hx
    have := hlen i (by simpa using hi)
    simp [u8]; omega
end
end Mine

/- L7 -/
namespace Mine

theorem S_app (a b : List Nat) : S a ++ S b = S (a ++ b) := by
  show (⟨a.toArray ++ b.toArray⟩ : Str) = _
  simp [S]
theorem S_len (a : List Nat) : (S a).length = a.length := by simp [S, Str.length]
section
variable {c : Cx} {A : Around} {env : Env} {ns : List Str} {own : List (Addr × List Sc)} {vals : List (Option D)} {Φ : Out → Prop} {bad : List Addr}
theorem ev_neg {e : Expr} {pos : Pos} {a : Int} (h : Ev c A env ns vals bad e (.sc (.int a))) : Ev c A env ns vals bad (.UnaryOp .USub e pos) (.sc (.int (-a))) := by
  intro s G V
  refine UnaryOp_ (wpAny_mono (h s G V) (fun v s₁ q => ?_) fun _ _ x => x)
  obtain ⟨q, k⟩ := q
  have q' : ScR v (.int a) := q
  cases q'
  exact neg_int ⟨.int _ _, keeps_trans k (keeps_tok _ _)⟩
theorem ex_addS {x : Str} {p pos : Pos} {e : Expr} {a b : List Nat} (i : Nat) (h : Ev c A env ns vals (own.map (·.1)) e (.sc (.str (S b)))) (hi : ns[i]? = some x) (hv : vals[i]? = some (some (.sc (.str (S a))))) (hk : env.kindOf x = some .local)
    (hz : a.length + b.length ≤ 100000) (hn : Φ (.next own (vals.set i (some (.sc (.str (S (a ++ b)))))))) : Ex c A env ns (.AugAssign (.Name x p) .Add e pos) own vals Φ :=
  ex_addStr i h hi hv hk (by rw [S_len, S_len]; exact hz) (by rw [S_app]; exact hn)
theorem ev_addS {l r : Expr} {pos : Pos} {a b : List Nat} (hl : Ev c A env ns vals bad l (.sc (.str (S a)))) (hr : Ev c A env ns vals bad r (.sc (.str (S b)))) (hz : a.length + b.length ≤ 100000) :
    Ev c A env ns vals bad (.BinOp l .Add r pos) (.sc (.str (S (a ++ b)))) :=
  ev_eq (ev_addStr hl hr (by rw [S_len, S_len]; exact hz)) (by rw [S_app])
end
theorem fmod_nat (a k : Nat) (hk : 0 < k) : ((a : Nat) : Int).fmod (k : Nat) = ((a % k : Nat) : Int) := by
  rw [Int.fmod_eq_emod_of_nonneg _ (by omega)]
  rfl
def nsRead : List Str := ["words", "refused", "turn", "text", "due", "suitor", "sent"]

structure ROk (c : Cx) : Prop where
  q : QOk c
  f : FOk c
  r0 : c.mg "range" = none
  r1 : c.mb "range" = some (.type "range")
  gq : c.mg "quotedata" = some (.ref 60)
  gp : c.mg "ParseFlags" = some (.ref 43)

theorem binds3 {fd : FuncData} {a : Addr} {ns : List Str} {x y z : Str} (h : ∀ u v w : Value, bindArgs fd ⟨[u, v, w], []⟩ = pure [(x, u), (y, v), (z, w)]) (hx : fd.scope.names.lookup x = some .local) (hy : fd.scope.names.lookup y = some .local) (hz : fd.scope.names.lookup z = some .local)
    (n0 : ns[0]? = some x) (n1 : ns[1]? = some y) (n2 : ns[2]? = some z) (hxy : x ≠ y) (hxz : x ≠ z) (hyz : y ≠ z) : Binds fd a ns 3 := by
  intro vs hl'
  obtain ⟨u, v, w, rfl⟩ : ∃ u v w, vs = [u, v, w] := by
    match vs, hl' with
    | [u, v, w], _ => exact ⟨u, v, w, rfl⟩
  refine ⟨_, h u v w, fun n p hp => ?_, fun i p q hi hv => ?_⟩
  · rcases List.mem_cons.mp hp with rfl | hp
    · exact .inl hx
    · rcases List.mem_cons.mp hp with rfl | hp
      · exact .inl hy
      · rw [List.mem_singleton.mp hp]; exact .inl hz
  · match i with
    | 0 =>
      simp at hv; subst hv
      rw [n0] at hi; cases hi
      exact ⟨fun _ => by simp [bindL, hx, hy, hz, hxy, hxz, hyz], fun q => by rw [hx] at q; cases q⟩
    | 1 =>
      simp at hv; subst hv
      rw [n1] at hi; cases hi
      exact ⟨fun _ => by simp [bindL, hx, hy, hz, hxy, hxz, hyz, hxy.symm], fun q => by rw [hy] at q; cases q⟩
    | 2 =>
      simp at hv; subst hv
      rw [n2] at hi; cases hi
      exact ⟨fun _ => by simp [bindL, hx, hy, hz, hxz.symm, hyz.symm], fun q => by rw [hz] at q; cases q⟩
    | i + 3 => simp at hv

section
variable {c : Cx} {A : Around} {L a : Addr} {pm cd doc : Value}
/-- one turn of the loop -/
theorem read_turn {rs : List Int} {ws : Nat → List Nat} {t j : Nat} {tx du : List Nat} {v6 : Option D} {Φ : Out → Prop} (hj : j < 4) (ht : tx.length ≤ 5000) (hd : du.length ≤ 5000) (hw : ∀ i, i < 4 → (ws i).length ≤ 200)
    (hn : Φ (.next [] [some (.list (sStrs ((List.range 4).map fun i => S (ws i)))), some (.list (sInts rs)), some (.sc (.int (t : Nat))), some (.sc (.str (S (tx ++ (sepT t j (decide ((j : Int) ∈ rs)) ++ ws j))))), some (.sc (.str (S (du ++ (sepD t j (decide ((j : Int) ∈ rs)) ++ ws j))))), some (.sc (.int (j : Nat))), v6])) :
    Exs c A (callEnvC (fdOf 12 pm cd doc) L a) nsRead (match (bodyOf (defSt 12)) with | [_, _, .For _ _ b _ _, _, _, _] => b | _ => []) []
      [some (.list (sStrs ((List.range 4).map fun i => S (ws i)))), some (.list (sInts rs)), some (.sc (.int (t : Nat))), some (.sc (.str (S tx))), some (.sc (.str (S du))), some (.sc (.int (j : Nat))), v6] Φ := by
  have hwj : (sStrs ((List.range 4).map fun i => S (ws i)))[((j : Nat) : Int).toNat]? = some (.str (S (ws j))) := by
    rw [Int.toNat_natCast]
    simp [hj]
  have hwl := hw j hj
  have fin : ∀ {tx' du' : List Nat} {Ψ : Out → Prop}, tx'.length ≤ 6000 → du'.length ≤ 6000 → Ψ (.next [] [some (.list (sStrs ((List.range 4).map fun i => S (ws i)))), some (.list (sInts rs)), some (.sc (.int (t : Nat))), some (.sc (.str (S (tx' ++ ws j)))), some (.sc (.str (S (du' ++ ws j)))), some (.sc (.int (j : Nat))), v6]) →
      Exs c A (callEnvC (fdOf 12 pm cd doc) L a) nsRead (match (bodyOf (defSt 12)) with | [_, _, .For _ _ [_, x, y] _ _, _, _, _] => [x, y] | _ => []) []
        [some (.list (sStrs ((List.range 4).map fun i => S (ws i)))), some (.list (sInts rs)), some (.sc (.int (t : Nat))), some (.sc (.str (S tx'))), some (.sc (.str (S du'))), some (.sc (.int (j : Nat))), v6] Ψ := by
    intro tx' du' Ψ h1 h2 hΨ
    refine exs_cons (ex_addS 3 (ev_item (ev_name 0 rfl rfl (.inl rfl) rfl) (ev_name 5 rfl rfl (.inl rfl) rfl) (by omega) hwj (by simp) (fun _ _ => rfl)) rfl rfl rfl (by omega) ?_)
    refine exs_cons (ex_addS 4 (ev_item (ev_name 0 rfl rfl (.inl rfl) rfl) (ev_name 5 rfl rfl (.inl rfl) rfl) (by omega) hwj (by simp) (fun _ _ => rfl)) rfl rfl rfl (by omega) ?_)
    exact exs_nil hΨ
  have e3 : (((t : Nat) : Int) + ((j : Nat) : Int)).fmod 3 = (((t + j) % 3 : Nat) : Int) := by
    rw [← Int.natCast_add]
    exact fmod_nat _ 3 (by decide)
  have e4 : (((t : Nat) : Int) + ((j : Nat) : Int)).fmod 4 = (((t + j) % 4 : Nat) : Int) := by
    rw [← Int.natCast_add]
    exact fmod_nat _ 4 (by decide)
  refine exs_cons (ex_if (b := decide ((j : Int) ∈ rs)) (evb_cmp (ev_name 5 rfl rfl (.inl rfl) rfl) (ev_name 1 rfl rfl (.inl rfl) rfl) cmp_in_ints rfl) (fun hb => ?_) (fun hb => ?_))
  · rw [hb] at hn
    have hsT : sepT t j true = lineE.getD ((t + j) % 3) [] := rfl
    have hl2 : (lineE.getD ((t + j) % 3) []).length ≤ 2 := by rcases lineE_cases (t + j) with e | e | e <;> rw [e] <;> simp
    refine exs_cons (ex_addS (b := lineE.getD ((t + j) % 3) []) 3 (ev_item (xs := sStrs [S [10], S [13], S [13, 10]]) (ev_list (evs_cons ev_str (evs_cons ev_str (evs_cons ev_str evs_nil rfl) rfl) rfl) (by decide))
      (ev_eq (ev_mod (ev_add (ev_name 2 rfl rfl (.inl rfl) rfl) (ev_name 5 rfl rfl (.inl rfl) rfl)) ev_int (by decide)) (by rw [e3])) (by omega) ?_ (by decide) (fun _ _ => rfl)) rfl rfl rfl (by omega) ?_)
    · rw [Int.toNat_natCast]
      have : (t + j) % 3 = 0 ∨ (t + j) % 3 = 1 ∨ (t + j) % 3 = 2 := by omega
      rcases this with h | h | h <;> rw [h] <;> rfl
    · refine exs_cons (ex_addS (b := [13, 10, 46]) 4 ev_str rfl rfl rfl (by simp; omega) ?_)
      refine exs_nil ?_
      refine fin (tx' := tx ++ lineE.getD ((t + j) % 3) []) (du' := du ++ [13, 10, 46]) (by rw [List.length_append]; omega) (by simp; omega) ?_
      rw [List.append_assoc, List.append_assoc]
      exact hn
  · rw [hb] at hn
    refine exs_cons (ex_if (b := decide (((j : Nat) : Int) > 0)) (evb_cmp (ev_name 5 rfl rfl (.inl rfl) rfl) ev_int cmp_gt_int rfl) (fun hb' => ?_) (fun hb' => ?_))
    · have hj0 : 0 < j := by simpa using hb'
      have hsT : sepT t j false = [blanks.getD ((t + j) % 4) 0] := by unfold sepT; simp [hj0]
      have hsD : sepD t j false = [blanks.getD ((t + j) % 4) 0] := by unfold sepD; simp [hj0]
      rw [hsT, hsD] at hn
      refine exs_cons (ex_addS (b := [blanks.getD ((t + j) % 4) 0]) 3 (ev_sign (x := S blanks) ev_str
        (ev_eq (ev_mod (ev_add (ev_name 2 rfl rfl (.inl rfl) rfl) (ev_name 5 rfl rfl (.inl rfl) rfl)) ev_int (by decide)) (by rw [e4])) (by omega) (by omega) ?_ (fun _ _ => rfl)) rfl rfl rfl (by simp; omega) ?_)
      · have : (t + j) % 4 = 0 ∨ (t + j) % 4 = 1 ∨ (t + j) % 4 = 2 ∨ (t + j) % 4 = 3 := by omega
        rcases this with h | h | h | h <;> rw [h] <;> rfl
      · refine exs_cons (ex_addS (b := [blanks.getD ((t + j) % 4) 0]) 4 (ev_sign (ev_name 3 rfl rfl (.inl rfl) rfl) (ev_neg ev_int) (by decide) (by decide) ?_ (fun _ _ => rfl)) rfl rfl rfl (by simp; omega) ?_)
        · have hlen : (S (tx ++ [blanks.getD ((t + j) % 4) 0])).length = tx.length + 1 := by rw [S_len]; simp
          have hs : seqIndex? (-1) (S (tx ++ [blanks.getD ((t + j) % 4) 0])).length = some tx.length := by
            rw [hlen]
            unfold seqIndex?
            simp only [show (-1 : Int) < 0 by decide, if_true]
            have h1 : (0 : Int) ≤ -1 + ((tx.length + 1 : Nat) : Int) := by omega
            have h2 : -1 + ((tx.length + 1 : Nat) : Int) < ((tx.length + 1 : Nat) : Int) := by omega
            rw [decide_eq_true h1, decide_eq_true h2]
            simp only [Bool.and_self, if_true]
            congr 1
            omega
          rw [hs]
          show (tx ++ [blanks.getD ((t + j) % 4) 0]).toArray[tx.length]? = _
          simp
        · refine exs_nil (exs_nil ?_)
          refine fin (tx' := tx ++ [blanks.getD ((t + j) % 4) 0]) (du' := du ++ [blanks.getD ((t + j) % 4) 0]) (by simp; omega) (by simp; omega) ?_
          rw [List.append_assoc, List.append_assoc]
          exact hn
    · have hj0 : ¬ 0 < j := by simpa using hb'
      have hsT : sepT t j false = [] := by unfold sepT; simp [hj0]
      have hsD : sepD t j false = [] := by unfold sepD; simp [hj0]
      rw [hsT, hsD] at hn
      exact exs_nil (exs_nil (fin (by omega) (by omega) hn))
end
end Mine

/- L8 -/
namespace Mine

theorem segs_len {sep ws : Nat → List Nat} (hs : ∀ i, (sep i).length ≤ 3) (hw : ∀ i, i < 4 → (ws i).length ≤ 200) : ∀ n, n ≤ 4 → (segs sep ws n).length ≤ 203 * n
  | 0, _ => by simp [segs]
  | n + 1, h => by
    have h1 := segs_len hs hw n (by omega)
    have h2 := hs n
    have h3 := hw n (by omega)
    rw [segs_succ]
    simp only [List.length_append]
    omega
theorem sepT_len (t i : Nat) (r : Bool) : (sepT t i r).length ≤ 3 := by
  unfold sepT
  cases r with
  | true => simp only [if_true]; rcases lineE_cases (t + i) with e | e | e <;> rw [e] <;> simp
  | false => simp only [Bool.false_eq_true, if_false]; split <;> simp
theorem sepD_len (t i : Nat) (r : Bool) : (sepD t i r).length ≤ 3 := by
  unfold sepD
  cases r with
  | true => simp
  | false => simp only [Bool.false_eq_true, if_false]; split <;> simp
theorem endT_len (t : Nat) : (endT t).length ≤ 1 ∧ (endD t).length ≤ 2 := by
  rcases end_cases t with ⟨h1, h2⟩ | ⟨h1, h2⟩ | ⟨h1, h2⟩ <;> rw [h1, h2] <;> simp
theorem T0_len : T0.length = 20 := rfl
section
variable {c : Cx} {A : Around} {pm cd doc pm1 cd1 doc1 pm2 cd2 doc2 : Value}
theorem read_spec (hA : AN A 2) (R : ROk c) (F : FnOk c 79 (fdOf 12 pm cd doc) (bodyOf (defSt 12))) (F1 : FnOk c 60 (fdOf 8 pm1 cd1 doc1) (bodyOf (defSt 8))) (F2 : FnOk c 43 (fdOf 3 pm2 cd2 doc2) (bodyOf (defSt 3)))
    {o60 o43 : Obj} (k60 : c.K.lookup 60 = some o60) (d60 : o60.data = .func (fdOf 8 pm1 cd1 doc1)) (k43 : c.K.lookup 43 = some o43) (d43 : o43.data = .func (fdOf 3 pm2 cd2 doc2))
    {rs : List Int} {ws : Nat → List Nat} {t : Nat} (h : ∀ i, i < 4 → WordOk (ws i)) (hw : ∀ i, i < 4 → (ws i).length ≤ 200) :
    Bi c A [] (.ref 79) [.list (sStrs ((List.range 4).map fun i => S (ws i))), .list (sInts rs), .sc (.int (t : Nat))] (.tuple (sBytes ((List.range 4).map fun (i : Nat) => byt (S (newW (decide ((i : Int) ∈ rs)) (ws i)))))) := by
  refine bi_def (ns := nsRead) F hA.ok (binds3 (x := "words") (y := "refused") (z := "turn") (fun _ _ _ => rfl) rfl rfl rfl rfl rfl rfl (by decide) (by decide) (by decide)) (by decide) fun L => ?_
  have hA1 : AN (A.deeper (callEnvC (fdOf 12 pm cd doc) L 79)) 1 := hA.deeper
  have hA' := hA1.ok
  have hA0 : AN (A.deeper (callEnvC (fdOf 12 pm cd doc) L 79)) 0 := ⟨hA'.hh, by have := hA'.un; omega, hA'.dp⟩
  have lT := fun n hn => segs_len (sep := fun (i : Nat) => sepT t i (decide ((i : Int) ∈ rs))) (ws := ws) (fun i => sepT_len _ _ _) hw n hn
  have lD := fun n hn => segs_len (sep := fun (i : Nat) => sepD t i (decide ((i : Int) ∈ rs))) (ws := ws) (fun i => sepD_len _ _ _) hw n hn
  refine exs_cons (ex_assign 3 (ev_str (x := S T0)) rfl (.inl rfl) ?_ rfl)
  refine exs_cons (ex_assign 4 (ev_addS (a := [46]) (b := T0) ev_str (ev_name 3 rfl rfl (.inl rfl) rfl) (by decide)) rfl (.inl rfl) ?_ rfl)
  refine exs_cons (ex_for 5 (xs := rangeS 4) (it_range (n := 4) hA' rfl R.r0 R.r1 rfl ev_int (by decide) rfl rfl) rfl (.inl rfl) ?_ (fun _ => rfl) fun _ _ => rfl)
  refine loop_inv (fun j own vals => ∃ v5, own = [] ∧ vals = [some (.list (sStrs ((List.range 4).map fun i => S (ws i)))), some (.list (sInts rs)), some (.sc (.int (t : Nat))),
      some (.sc (.str (S (T0 ++ segs (fun (i : Nat) => sepT t i (decide ((i : Int) ∈ rs))) ws j)))), some (.sc (.str (S (46 :: (T0 ++ segs (fun (i : Nat) => sepD t i (decide ((i : Int) ∈ rs))) ws j))))), v5, none])
    ⟨none, rfl, by rfl⟩ ?_ ?_
  · rintro j d own vals hj ⟨v5, rfl, rfl⟩
    obtain ⟨i, hi, rfl⟩ := rangeS_mem (List.mem_of_getElem? hj)
    obtain rfl : i = j := by
      have : j < 4 := by
        rcases Nat.lt_or_ge j 4 with h | h
        · exact h
        · rw [List.getElem?_eq_none (by simpa [rangeS] using h)] at hj; cases hj
      simp [rangeS, this] at hj
      omega
    have l1 := lT i (by omega)
    have l2 := lD i (by omega)
    refine read_turn (rs := rs) (ws := ws) (t := t) (j := i) (tx := T0 ++ segs (fun (i : Nat) => sepT t i (decide ((i : Int) ∈ rs))) ws i) (du := 46 :: (T0 ++ segs (fun (i : Nat) => sepD t i (decide ((i : Int) ∈ rs))) ws i)) hi
      (by rw [List.length_append, T0_len]; omega) (by rw [List.length_cons, List.length_append, T0_len]; omega) hw ?_
    refine ⟨some (.sc (.int (i : Nat))), rfl, ?_⟩
    rw [segs_succ, segs_succ]
    simp only [List.append_assoc, List.cons_append]
  · rintro own vals ⟨v5, rfl, rfl⟩
    have l1 := lT 4 (by omega)
    have l2 := lD 4 (by omega)
    have le := endT_len t
    have e3 : ((t : Nat) : Int).fmod 3 = ((t % 3 : Nat) : Int) := fmod_nat _ 3 (by decide)
    have hfull : (T0 ++ segs (fun (i : Nat) => sepT t i (decide ((i : Int) ∈ rs))) ws 4 ++ endT t) ++ tailT = fullT t (fun (i : Nat) => decide ((i : Int) ∈ rs)) ws := by
      unfold fullT; simp only [List.append_assoc]
    have hfullD : ((46 :: (T0 ++ segs (fun (i : Nat) => sepD t i (decide ((i : Int) ∈ rs))) ws 4)) ++ endD t) ++ tailD = fullD t (fun (i : Nat) => decide ((i : Int) ∈ rs)) ws := by
      unfold fullD midD; simp only [List.append_assoc, List.cons_append]
    have hq : quoteF (S (fullT t (fun (i : Nat) => decide ((i : Int) ∈ rs)) ws)) = S (fullD t (fun (i : Nat) => decide ((i : Int) ∈ rs)) ws) := by
      show S (quoteL (S (fullT t (fun (i : Nat) => decide ((i : Int) ∈ rs)) ws)).cps.toList) = _
      rw [show (S (fullT t (fun (i : Nat) => decide ((i : Int) ∈ rs)) ws)).cps.toList = fullT t (fun (i : Nat) => decide ((i : Int) ∈ rs)) ws from rfl, quote_full h]
    have lfT : (fullT t (fun (i : Nat) => decide ((i : Int) ∈ rs)) ws).length ≤ 1000 := by
      rw [← hfull]; simp only [List.length_append, T0_len]
      have : tailT.length = 15 := rfl
      have : (segs (fun (i : Nat) => sepT t i (decide ((i : Int) ∈ rs))) ws 4).length ≤ 203 * 4 := l1
      omega
    have lfD : (fullD t (fun (i : Nat) => decide ((i : Int) ∈ rs)) ws).length ≤ 1000 := by
      rw [← hfullD]; simp only [List.length_append, List.length_cons, T0_len]
      have : tailD.length = 16 := rfl
      have : (segs (fun (i : Nat) => sepD t i (decide ((i : Int) ∈ rs))) ws 4).length ≤ 203 * 4 := l2
      omega
    have mT : ∀ (xs : List (List Nat)), xs.length = 3 → (sStrs (xs.map S))[(((t % 3 : Nat) : Int)).toNat]? = some (.str (S (xs.getD (t % 3) []))) := by
      intro xs hx
      have : t % 3 < xs.length := by omega
      rw [Int.toNat_natCast]
      simp [this]
    refine exs_cons (ex_assign 6 (d := .sc (.str (S (fullD t (fun (i : Nat) => decide ((i : Int) ∈ rs)) ws)))) (ev_call_def rfl R.gq rfl k60 d60 (evs_cons (d := .sc (.str (S (fullT t (fun (i : Nat) => decide ((i : Int) ∈ rs)) ws)))) ?_ evs_nil rfl) ?_ rfl rfl) rfl (.inl rfl) ?_ rfl)
    · refine ev_eq (ev_addS (a := T0 ++ segs (fun (i : Nat) => sepT t i (decide ((i : Int) ∈ rs))) ws 4 ++ endT t) (b := tailT) (ev_addS (b := endT t) (ev_name 3 rfl rfl (.inl rfl) rfl)
        (ev_item (xs := sStrs ([[], [32], [13]].map S)) (ev_list (evs_cons ev_str (evs_cons ev_str (evs_cons ev_str evs_nil rfl) rfl) rfl) (by decide)) (ev_eq (ev_mod (ev_name 2 rfl rfl (.inl rfl) rfl) ev_int (by decide)) (by rw [e3])) (by omega) (mT _ rfl) (by decide) (fun _ _ => rfl)) ?_) ev_str ?_) (by rw [hfull])
      · rw [List.length_append, T0_len]; omega
      · rw [List.length_append, List.length_append, T0_len, show tailT.length = 15 from rfl]; omega
    · have := quote_spec (x := S (fullT t (fun (i : Nat) => decide ((i : Int) ∈ rs)) ws)) hA0 R.q F1 (by show (fullT _ _ _).toArray.size ≤ _; rw [List.size_toArray]; omega)
      rw [hq] at this
      exact this
    · refine exs_cons (ex_if (b := false) (evb_cmp (d₂ := .sc (.str (S (fullD t (fun (i : Nat) => decide ((i : Int) ∈ rs)) ws)))) (ev_name 6 rfl rfl (.inl rfl) rfl) ?_ ?_ rfl) (fun hb => (nomatch hb)) (fun _ => exs_nil ?_))
      · refine ev_eq (ev_addS (a := (46 :: (T0 ++ segs (fun (i : Nat) => sepD t i (decide ((i : Int) ∈ rs))) ws 4)) ++ endD t) (b := tailD) (ev_addS (b := endD t) (ev_name 4 rfl rfl (.inl rfl) rfl)
          (ev_item (xs := sStrs ([[], [32], [13, 10]].map S)) (ev_list (evs_cons ev_str (evs_cons ev_str (evs_cons ev_str evs_nil rfl) rfl) rfl) (by decide)) (ev_eq (ev_mod (ev_name 2 rfl rfl (.inl rfl) rfl) ev_int (by decide)) (by rw [e3])) (by omega) (mT _ rfl) (by decide) (fun _ _ => rfl)) ?_) ev_str ?_) (by rw [hfullD])
        · rw [List.length_cons, List.length_append, T0_len]; omega
        · rw [List.length_append, List.length_cons, List.length_append, T0_len, show tailD.length = 16 from rfl]; omega
      · have := cmp_ne_str (c := c) (A := A.deeper (callEnvC (fdOf 12 pm cd doc) L 79)) (bad := []) (x := S (fullD t (fun (i : Nat) => decide ((i : Int) ∈ rs)) ws)) (y := S (fullD t (fun (i : Nat) => decide ((i : Int) ∈ rs)) ws))
        rw [show (S (fullD t (fun (i : Nat) => decide ((i : Int) ∈ rs)) ws) != S (fullD t (fun (i : Nat) => decide ((i : Int) ∈ rs)) ws)) = false by simp] at this
        exact this
      · refine exs_cons (ex_ret (ev_call_def rfl R.gp rfl k43 d43 (evs_cons (d := .sc (.bytes (byt (S (fullD t (fun (i : Nat) => decide ((i : Int) ∈ rs)) ws))))) ?_ evs_nil rfl) (parse_full hA1 R.f F2 h hw (by omega)) rfl rfl) rfl)
        refine ev_method1 (T := "str") (id := "str.encode") (ev_name 6 rfl rfl (.inl rfl) rfl) ofType_str PySem.F.plainAttrs_str FR.slot_encode FR.type_encode (d₁ := .sc (.str latin)) ev_str (bi_encode (fun c hc => full_mem h hc) ?_) rfl rfl rfl rfl
        show (fullD _ _ _).toArray.size ≤ _
        rw [List.size_toArray]; omega
end
end Mine

/- G1 -/
namespace Mine

/-! suitors and those who choose: the plain law -/
def iN (k : Nat) : Int := (k : Int)
theorem perm4_fin : ∀ a b c d : Fin 4, (∀ k : Fin 4, ((k.val : Nat) : Int) ∈ [((a.val : Nat) : Int), ((b.val : Nat) : Int), ((c.val : Nat) : Int), ((d.val : Nat) : Int)]) →
    ∀ k : Fin 4, [((a.val : Nat) : Int), ((b.val : Nat) : Int), ((c.val : Nat) : Int), ((d.val : Nat) : Int)].idxOf ([((a.val : Nat) : Int), ((b.val : Nat) : Int), ((c.val : Nat) : Int), ((d.val : Nat) : Int)].getD k.val 0) = k.val := by decide +kernel
theorem list4 {l : List Int} (h : l.length = 4) (hr : ∀ k ∈ l, 0 ≤ k ∧ k < 4) : ∃ a b c d : Fin 4, l = [((a.val : Nat) : Int), ((b.val : Nat) : Int), ((c.val : Nat) : Int), ((d.val : Nat) : Int)] := by
  match l, h with
  | [a, b, c, d], _ =>
    have ha := hr a (by simp)
    have hb := hr b (by simp)
    have hc := hr c (by simp)
    have hd := hr d (by simp)
    refine ⟨⟨a.toNat, by omega⟩, ⟨b.toNat, by omega⟩, ⟨c.toNat, by omega⟩, ⟨d.toNat, by omega⟩, ?_⟩
    simp only [List.cons.injEq, and_true]
    refine ⟨?_, ?_, ?_, ?_⟩ <;> omega
theorem idx_at {l : List Int} (P : PermOk l) {k : Nat} (hk : k < 4) : l.idxOf (l.getD k 0) = k := by
  obtain ⟨a, b, c, d, rfl⟩ := list4 P.len P.rng
  exact perm4_fin a b c d (fun k => P.all k.val k.isLt) ⟨k, hk⟩
theorem at_idx {l : List Int} {x : Int} (hx : x ∈ l) : l.getD (l.idxOf x) 0 = x := by
  have h := List.idxOf_lt_length_iff.mpr hx
  rw [List.getD_eq_getElem?_getD, List.getElem?_eq_getElem h]
  exact List.getElem_idxOf h
theorem ord_perm {orders : List (List Int)} (O : OrdOk orders) {i : Nat} (hi : i < 8) : PermOk (orders.getD i []) := ⟨O.four i hi, O.rng i hi, O.all i hi⟩
theorem mem_take_idx {l : List Int} {x : Int} {n : Nat} : x ∈ l.take n ↔ x ∈ l ∧ l.idxOf x < n := by
  induction l generalizing n with
  | nil => simp
  | cons y l ih =>
    cases n with
    | zero => simp
    | succ n =>
      rw [List.take_succ_cons, List.mem_cons, List.mem_cons, ih]
      by_cases h : y = x
      · subst h
        simp
      · have : (y :: l).idxOf x = l.idxOf x + 1 := by
          rw [List.idxOf_cons]
          have hb : (y == x) = false := beq_eq_false_iff_ne.mpr h
          rw [hb]; rfl
        rw [this]
        constructor
        · rintro (q | ⟨q1, q2⟩)
          · exact absurd q.symm h
          · exact ⟨.inr q1, by omega⟩
        · rintro ⟨q1 | q1, q2⟩
          · exact absurd q1.symm h
          · exact .inr ⟨q1, by omega⟩

def ord (orders : List (List Int)) (i k : Nat) : Int := (orders.getD i []).getD k 0
def like (orders : List (List Int)) (a : Int) (x : Nat) : Nat := (orders.getD (4 + a).toNat []).idxOf (x : Int)
def suedAt (orders : List (List Int)) (p : Nat → Nat) (j : Nat) : Int := ord orders j (p j)
def plOf (p : Nat → Nat) : List Int := (List.range 4).map fun i => (p i : Int)
def Ref (orders : List (List Int)) (p : Nat → Nat) (j : Nat) : Prop := ∃ i, i < 4 ∧ suedAt orders p i = suedAt orders p j ∧ like orders (suedAt orders p j) i < like orders (suedAt orders p j) j

section
variable {orders : List (List Int)} {p : Nat → Nat} (O : OrdOk orders)
include O
theorem ord_rng {i k : Nat} (hi : i < 8) (hk : k < 4) : 0 ≤ ord orders i k ∧ ord orders i k < 4 := O.rng i hi _ (getD_mem 0 (by rw [O.four i hi]; exact hk))
theorem ord_inj {i k k' : Nat} (hi : i < 8) (hk : k < 4) (hk' : k' < 4) (h : ord orders i k = ord orders i k') : k = k' := by
  have h1 := idx_at (ord_perm O hi) hk
  have h2 := idx_at (ord_perm O hi) hk'
  unfold ord at h
  rw [h] at h1
  omega
theorem like_inj {a : Int} (h0 : 0 ≤ a) (h4 : a < 4) {x y : Nat} (hx : x < 4) (hy : y < 4) (h : like orders a x = like orders a y) : x = y := by
  have h1 := at_idx (O.all (4 + a).toNat (by omega) x hx)
  have h2 := at_idx (O.all (4 + a).toNat (by omega) y hy)
  unfold like at h
  rw [h, h2] at h1
  omega
theorem ord_of {i : Nat} (hi : i < 8) {a : Int} (h0 : 0 ≤ a) (h4 : a < 4) : ∃ k, k < 4 ∧ ord orders i k = a := by
  have hm := mem_nat (O.all i hi) h0 h4
  refine ⟨(orders.getD i []).idxOf a, ?_, at_idx hm⟩
  rw [← O.four i hi]
  exact List.idxOf_lt_length_iff.mpr hm

theorem sued_eq {j : Nat} (hj : j < 4) : (suedF (plOf p) orders).getD j 0 = suedAt orders p j := by
  unfold suedF plOf suedAt ord
  simp [hj]
theorem isRef_iff (hp : ∀ i, i < 4 → p i < 4) {j : Nat} (hj : j < 4) : isRef (suedF (plOf p) orders) orders j = true ↔ Ref orders p j := by
  unfold isRef rivals betterF Ref
  rw [sued_eq O hj]
  have hs := ord_rng O (i := j) (k := p j) (by omega) (hp j hj)
  have hs' : 0 ≤ suedAt orders p j ∧ suedAt orders p j < 4 := hs
  have hl8 : (4 + suedAt orders p j).toNat < 8 := by omega
  rw [Bool.not_eq_true', decide_eq_false_iff_not]
  constructor
  · intro h
    obtain ⟨x, hx⟩ := List.exists_mem_of_ne_nil _ h
    rw [List.mem_filter, mem_take_idx] at hx
    obtain ⟨⟨h1, h2⟩, h3⟩ := hx
    have hr := O.rng _ hl8 x h1
    refine ⟨x.toNat, by omega, ?_, ?_⟩
    · rw [sued_eq O (by omega)] at h3
      exact beq_iff_eq.mp h3
    · unfold like
      rw [Int.toNat_of_nonneg hr.1]
      exact h2
  · rintro ⟨i, hi, h1, h2⟩ e
    have : (i : Int) ∈ ((orders.getD (4 + suedAt orders p j).toNat []).take ((orders.getD (4 + suedAt orders p j).toNat []).idxOf (j : Int))).filter fun o => (suedF (plOf p) orders).getD o.toNat 0 == suedAt orders p j := by
      rw [List.mem_filter, mem_take_idx]
      refine ⟨⟨O.all _ hl8 i hi, h2⟩, ?_⟩
      rw [Int.toNat_natCast, sued_eq O hi, h1]
      exact beq_self_eq_true _
    rw [e] at this
    cases this
theorem mem_refused (hp : ∀ i, i < 4 → p i < 4) {j : Nat} (hj : j < 4) : (j : Int) ∈ refusedS (suedF (plOf p) orders) orders ↔ Ref orders p j := by
  unfold refusedS
  rw [List.mem_map]
  constructor
  · rintro ⟨i, hi, e⟩
    have : i = j := by omega
    subst this
    rw [List.mem_filter] at hi
    exact (isRef_iff O hp hj).mp hi.2
  · intro h
    exact ⟨j, List.mem_filter.mpr ⟨List.mem_range.mpr hj, (isRef_iff O hp hj).mpr h⟩, rfl⟩
theorem refused_nil (hp : ∀ i, i < 4 → p i < 4) : refusedS (suedF (plOf p) orders) orders = [] ↔ ∀ j, j < 4 → ¬ Ref orders p j := by
  constructor
  · intro h j hj q
    have := (mem_refused O hp hj).mpr q
    rw [h] at this
    cases this
  · intro h
    rw [List.eq_nil_iff_forall_not_mem]
    intro x hx
    have hx' := hx
    unfold refusedS at hx
    obtain ⟨i, hi, rfl⟩ := List.mem_map.mp hx
    rw [List.mem_filter] at hi
    have hi4 := List.mem_range.mp hi.1
    exact h i hi4 ((mem_refused O hp hi4).mp hx')

/-- the best of those who sue a one -/
theorem best_of {a : Int} (h0 : 0 ≤ a) (h4 : a < 4) : ∀ (n j : Nat), j < 4 → suedAt orders p j = a → like orders a j = n → ∃ b, b < 4 ∧ suedAt orders p b = a ∧ like orders a b ≤ n ∧ ¬ Ref orders p b := by
  intro n
  induction n using Nat.strongRecOn with
  | _ n ih =>
    intro j hj hs hn
    by_cases hr : Ref orders p j
    · obtain ⟨i, hi, e, hl⟩ := hr
      rw [hs] at e hl
      obtain ⟨b, h1, h2, h3, h5⟩ := ih (like orders a i) (by omega) i hi e rfl
      exact ⟨b, h1, h2, by omega, h5⟩
    · exact ⟨j, hj, hs, by omega, hr⟩
end
structure GS (orders : List (List Int)) (p : Nat → Nat) : Prop where
  lt : ∀ i, i < 4 → p i ≤ 3
  J : ∀ i, i < 4 → ∀ k, k < p i → ∃ j, j < 4 ∧ suedAt orders p j = ord orders i k ∧ like orders (ord orders i k) j < like orders (ord orders i k) i
  B : ∀ M, PermOk M → stableF M orders = true → ∀ i, i < 4 → p i ≤ rankF orders M i
def next (orders : List (List Int)) (p : Nat → Nat) (i : Nat) : Nat := p i + if decide ((i : Int) ∈ refusedS (suedF (plOf p) orders) orders) then 1 else 0
theorem gs_zero (orders : List (List Int)) : GS orders fun _ => 0 := ⟨fun _ _ => by omega, fun _ _ k h => by omega, fun _ _ _ _ _ => by omega⟩
theorem hole4 : ∀ a b c d : Fin 4, (a = b ∨ a = c ∨ a = d ∨ b = c ∨ b = d ∨ c = d) → ∃ e : Fin 4, e ≠ a ∧ e ≠ b ∧ e ≠ c ∧ e ≠ d := by decide +kernel
theorem hole {f : Nat → Int} (hf : ∀ i, i < 4 → 0 ≤ f i ∧ f i < 4) {i j : Nat} (hi : i < 4) (hj : j < 4) (hij : i ≠ j) (h : f i = f j) : ∃ e : Int, 0 ≤ e ∧ e < 4 ∧ ∀ k, k < 4 → f k ≠ e := by
  have h0 := hf 0 (by omega)
  have h1 := hf 1 (by omega)
  have h2 := hf 2 (by omega)
  have h3 := hf 3 (by omega)
  obtain ⟨e, e0, e1, e2, e3⟩ := hole4 ⟨(f 0).toNat, by omega⟩ ⟨(f 1).toNat, by omega⟩ ⟨(f 2).toNat, by omega⟩ ⟨(f 3).toNat, by omega⟩ (by
    simp only [Fin.mk.injEq]
    have hi' : i = 0 ∨ i = 1 ∨ i = 2 ∨ i = 3 := by omega
    have hj' : j = 0 ∨ j = 1 ∨ j = 2 ∨ j = 3 := by omega
    rcases hi' with rfl | rfl | rfl | rfl <;> rcases hj' with rfl | rfl | rfl | rfl <;> omega)
  refine ⟨(e.val : Int), by omega, by have := e.isLt; omega, fun k hk => ?_⟩
  simp only [ne_eq, Fin.ext_iff] at e0 e1 e2 e3
  have hk' : k = 0 ∨ k = 1 ∨ k = 2 ∨ k = 3 := by omega
  rcases hk' with rfl | rfl | rfl | rfl <;> omega
section
variable {orders : List (List Int)} {p : Nat → Nat} (O : OrdOk orders) (g : GS orders p)
include O g
theorem gs_lt {i : Nat} (hi : i < 4) : p i < 4 := by have := g.lt i hi; omega
theorem gs_two {j : Nat} (hj : j < 4) (hr : Ref orders p j) : ∀ i, i < 4 → p i ≤ 2 := by
  obtain ⟨i, hi, e, hl⟩ := hr
  have hne : i ≠ j := fun q => by subst q; omega
  have rng : ∀ k, k < 4 → 0 ≤ suedAt orders p k ∧ suedAt orders p k < 4 := fun k hk => ord_rng O (by omega) (gs_lt O g hk)
  obtain ⟨a, a0, a4, hno⟩ := hole rng hi hj hne e
  intro m hm
  obtain ⟨k, hk, ek⟩ := ord_of O (i := m) (by omega) a0 a4
  have h1 : ¬ k < p m := fun q => by
    obtain ⟨b, hb, hs, _⟩ := g.J m hm k q
    rw [ek] at hs
    exact hno b hb hs
  have h2 : p m ≠ k := fun q => by
    have : suedAt orders p m = a := by unfold suedAt; rw [q]; exact ek
    exact hno m hm this
  omega
theorem next_not {j : Nat} (hj : j < 4) (h : ¬ Ref orders p j) : next orders p j = p j := by
  unfold next
  rw [decide_eq_false (fun q => h ((mem_refused O (fun i hi => gs_lt O g hi) hj).mp q))]
  rfl
theorem next_ref {j : Nat} (hj : j < 4) (h : Ref orders p j) : next orders p j = p j + 1 := by
  unfold next
  rw [decide_eq_true ((mem_refused O (fun i hi => gs_lt O g hi) hj).mpr h)]
  rfl
theorem gs_next : GS orders (next orders p) := by
  have rng : ∀ i k, i < 4 → k < 4 → 0 ≤ ord orders i k ∧ ord orders i k < 4 := fun i k hi hk => ord_rng O (by omega) hk
  refine ⟨fun i hi => ?_, fun i hi k hk => ?_, fun M PM hM i hi => ?_⟩
  · by_cases hr : Ref orders p i
    · have := gs_two O g hi hr i hi
      rw [next_ref O g hi hr]; omega
    · rw [next_not O g hi hr]; exact g.lt i hi
  · have key : ∃ j, j < 4 ∧ suedAt orders p j = ord orders i k ∧ like orders (ord orders i k) j < like orders (ord orders i k) i := by
      rcases Nat.lt_or_ge k (p i) with q | q
      · exact g.J i hi k q
      · by_cases hr : Ref orders p i
        · rw [next_ref O g hi hr] at hk
          have : k = p i := by omega
          subst this
          exact hr
        · rw [next_not O g hi hr] at hk; omega
    have hk4 : k < 4 := by
      by_cases hr : Ref orders p i
      · have := gs_two O g hi hr i hi
        rw [next_ref O g hi hr] at hk; omega
      · have := g.lt i hi
        rw [next_not O g hi hr] at hk; omega
    obtain ⟨j, hj, hs, hl⟩ := key
    have hr := rng i k hi hk4
    obtain ⟨b, hb, hbs, hbl, hbr⟩ := best_of O (p := p) hr.1 hr.2 _ j hj hs rfl
    refine ⟨b, hb, ?_, by omega⟩
    unfold suedAt
    rw [next_not O g hb hbr]
    exact hbs
  · by_cases hr : Ref orders p i
    · rw [next_ref O g hi hr]
      have hb := g.B M PM hM i hi
      rcases Nat.lt_or_ge (p i) (rankF orders M i) with q | q
      · exact q
      · exfalso
        have heq : p i = rankF orders M i := by omega
        obtain ⟨j, hj, hs, hl⟩ := hr
        have hrng := rng i (p i) hi (gs_lt O g hi)
        -- M gives i the one that he sues
        have hMi : M.getD i 0 ∈ M := getD_mem 0 (by rw [PM.len]; exact hi)
        have hMr := PM.rng _ hMi
        have e1 : suedAt orders p i = M.getD i 0 := by
          unfold suedAt ord
          rw [heq]
          exact at_idx (mem_nat (O.all i (by omega)) hMr.1 hMr.2)
        have hne : j ≠ i := fun q => by subst q; omega
        have hMj : M.getD j 0 ∈ M := getD_mem 0 (by rw [PM.len]; exact hj)
        have hMjr := PM.rng _ hMj
        have hbj := g.B M PM hM j hj
        have hne2 : M.getD j 0 ≠ suedAt orders p i := fun q => by
          rw [e1] at q
          have h1 := idx_at PM hi
          have h2 := idx_at PM hj
          rw [q, h1] at h2
          exact hne h2.symm
        -- j likes the one better than whom M gives him
        have hrank : p j ≠ rankF orders M j := fun q => by
          apply hne2
          rw [← hs]
          unfold suedAt ord
          rw [q]
          exact (at_idx (mem_nat (O.all j (by omega)) hMjr.1 hMjr.2)).symm
        have hlt : p j < rankF orders M j := by omega
        have habove : suedAt orders p j ∈ aboveF M orders j := by
          unfold aboveF
          rw [mem_take_idx]
          have hjr := rng j (p j) hj (gs_lt O g hj)
          refine ⟨mem_nat (O.all j (by omega)) hjr.1 hjr.2, ?_⟩
          have : (orders.getD j []).idxOf (suedAt orders p j) = p j := idx_at (ord_perm O (by omega)) (gs_lt O g hj)
          rw [this]
          exact hlt
        have q1 := List.all_eq_true.mp hM j (List.mem_range.mpr hj)
        have q2 := List.all_eq_true.mp q1 _ habove
        unfold okAt at q2
        rw [Bool.not_eq_true', decide_eq_false_iff_not] at q2
        apply q2
        have hidx : M.idxOf (suedAt orders p j) = i := by rw [hs, e1]; exact idx_at PM hi
        rw [hidx]
        unfold like at hl
        rw [hs]
        omega
    · rw [next_not O g hi hr]; exact g.B M PM hM i hi
end
end Mine

/- G2 -/
namespace Mine

def sum4 (p : Nat → Nat) : Nat := p 0 + p 1 + p 2 + p 3
theorem all_orders : ∀ a b c d : Fin 4, a ≠ b → a ≠ c → a ≠ d → b ≠ c → b ≠ d → c ≠ d →
    ∃ n : Fin 24, orderOf ((n.val : Nat) : Int) = [((a.val : Nat) : Int), ((b.val : Nat) : Int), ((c.val : Nat) : Int), ((d.val : Nat) : Int)] := by decide +kernel
section
variable {orders : List (List Int)} {p : Nat → Nat} (O : OrdOk orders) (g : GS orders p)
include O g
theorem sum_next (h : refusedS (suedF (plOf p) orders) orders ≠ []) : sum4 p ≤ 8 ∧ sum4 p + 1 ≤ sum4 (next orders p) := by
  have : ∃ j, j < 4 ∧ Ref orders p j := by
    apply Classical.byContradiction
    intro q
    exact h ((refused_nil O (fun i hi => gs_lt O g hi)).mpr fun j hj r => q ⟨j, hj, r⟩)
  obtain ⟨j, hj, hr⟩ := this
  have t := gs_two O g hj hr
  have t0 := t 0 (by omega)
  have t1 := t 1 (by omega)
  have t2 := t 2 (by omega)
  have t3 := t 3 (by omega)
  have m : ∀ i, p i ≤ next orders p i := fun i => by unfold next; omega
  have m0 := m 0
  have m1 := m 1
  have m2 := m 2
  have m3 := m 3
  have e := next_ref O g hj hr
  unfold sum4
  refine ⟨by omega, ?_⟩
  have hj' : j = 0 ∨ j = 1 ∨ j = 2 ∨ j = 3 := by omega
  rcases hj' with rfl | rfl | rfl | rfl <;> omega
/-- at the end the places are those of the best stable pairing -/
theorem gs_best (h : refusedS (suedF (plOf p) orders) orders = []) : bestF orders = plOf p := by
  have hn := (refused_nil O (fun i hi => gs_lt O g hi)).mp h
  have rng : ∀ k, k < 4 → 0 ≤ suedAt orders p k ∧ suedAt orders p k < 4 := fun k hk => ord_rng O (by omega) (gs_lt O g hk)
  have inj : ∀ i j, i < 4 → j < 4 → suedAt orders p i = suedAt orders p j → i = j := by
    intro i j hi hj e
    rcases Nat.lt_trichotomy (like orders (suedAt orders p j) i) (like orders (suedAt orders p j) j) with q | q | q
    · exact absurd ⟨i, hi, e, q⟩ (hn j hj)
    · exact like_inj O (rng j hj).1 (rng j hj).2 hi hj q
    · exact absurd ⟨j, hj, e.symm, by rw [e]; exact q⟩ (hn i hi)
  have r0 := rng 0 (by omega)
  have r1 := rng 1 (by omega)
  have r2 := rng 2 (by omega)
  have r3 := rng 3 (by omega)
  have d : ∀ i j, i < 4 → j < 4 → i ≠ j → (suedAt orders p i).toNat ≠ (suedAt orders p j).toNat := fun i j hi hj hij q => by
    have a := rng i hi
    have b := rng j hj
    exact hij (inj i j hi hj (by omega))
  obtain ⟨n, hN⟩ := all_orders ⟨(suedAt orders p 0).toNat, by omega⟩ ⟨(suedAt orders p 1).toNat, by omega⟩ ⟨(suedAt orders p 2).toNat, by omega⟩ ⟨(suedAt orders p 3).toNat, by omega⟩
    (by simp only [ne_eq, Fin.mk.injEq]; exact d 0 1 (by omega) (by omega) (by omega)) (by simp only [ne_eq, Fin.mk.injEq]; exact d 0 2 (by omega) (by omega) (by omega)) (by simp only [ne_eq, Fin.mk.injEq]; exact d 0 3 (by omega) (by omega) (by omega))
    (by simp only [ne_eq, Fin.mk.injEq]; exact d 1 2 (by omega) (by omega) (by omega)) (by simp only [ne_eq, Fin.mk.injEq]; exact d 1 3 (by omega) (by omega) (by omega)) (by simp only [ne_eq, Fin.mk.injEq]; exact d 2 3 (by omega) (by omega) (by omega))
  have hN' : orderOf ((n.val : Nat) : Int) = [suedAt orders p 0, suedAt orders p 1, suedAt orders p 2, suedAt orders p 3] := by
    rw [hN]
    simp only [List.cons.injEq, and_true]
    refine ⟨?_, ?_, ?_, ?_⟩ <;> omega
  have PN := order_perm n.val n.isLt
  have at4 : ∀ i, i < 4 → (orderOf ((n.val : Nat) : Int)).getD i 0 = suedAt orders p i := by
    intro i hi
    rw [hN']
    have hi' : i = 0 ∨ i = 1 ∨ i = 2 ∨ i = 3 := by omega
    rcases hi' with rfl | rfl | rfl | rfl <;> rfl
  have rank : ∀ i, i < 4 → rankF orders (orderOf ((n.val : Nat) : Int)) i = p i := fun i hi => by
    unfold rankF
    rw [at4 i hi]
    exact idx_at (ord_perm O (by omega)) (gs_lt O g hi)
  have stab : stableF (orderOf ((n.val : Nat) : Int)) orders = true := by
    refine List.all_eq_true.mpr fun i hi => List.all_eq_true.mpr fun o ho => ?_
    have hi4 := List.mem_range.mp hi
    have ho' : o ∈ (orders.getD i []).take (rankF orders (orderOf ((n.val : Nat) : Int)) i) := ho
    rw [rank i hi4, mem_take_idx] at ho'
    obtain ⟨hm, hk⟩ := ho'
    have e : ord orders i ((orders.getD i []).idxOf o) = o := at_idx hm
    obtain ⟨j, hj, hs, hl⟩ := g.J i hi4 _ hk
    rw [e] at hs hl
    have hidx : (orderOf ((n.val : Nat) : Int)).idxOf o = j := by
      rw [← hs, ← at4 j hj]
      exact idx_at PN hj
    unfold okAt
    rw [hidx, Bool.not_eq_true', decide_eq_false_iff_not]
    unfold like at hl
    omega
  have len := bestGo_len orders
  have step : ∀ m i, i < 4 → (bestGo orders (m + 1)).getD i 0 = if stableF (orderOf (m : Nat)) orders then (if (rankF orders (orderOf (m : Nat)) i : Int) < (bestGo orders m).getD i 0 then (rankF orders (orderOf (m : Nat)) i : Int) else (bestGo orders m).getD i 0) else (bestGo orders m).getD i 0 := by
    intro m i hi
    rw [bestGo]
    by_cases hs : stableF (orderOf (m : Nat)) orders = true
    · rw [if_pos hs, if_pos hs]
      unfold lowerF
      simp [hi]
    · rw [if_neg hs, if_neg hs]
  have low : ∀ m, m ≤ 24 → ∀ i, i < 4 → (p i : Int) ≤ (bestGo orders m).getD i 0 := by
    intro m
    induction m with
    | zero =>
      intro _ i hi
      have := g.lt i hi
      have hi' : i = 0 ∨ i = 1 ∨ i = 2 ∨ i = 3 := by omega
      rcases hi' with rfl | rfl | rfl | rfl <;> (show _ ≤ (3 : Int)) <;> omega
    | succ m ih =>
      intro hm i hi
      have h1 := ih (by omega) i hi
      rw [step m i hi]
      by_cases hs : stableF (orderOf (m : Nat)) orders = true
      · have := g.B _ (order_perm m (by omega)) hs i hi
        rw [if_pos hs]
        split <;> omega
      · rw [if_neg hs]; exact h1
  have up : ∀ m, n.val < m → ∀ i, i < 4 → (bestGo orders m).getD i 0 ≤ (p i : Int) := by
    intro m
    induction m with
    | zero => intro q; omega
    | succ m ih =>
      intro hm i hi
      rw [step m i hi]
      rcases Nat.lt_or_ge n.val m with q | q
      · have h1 := ih q i hi
        split
        · split <;> omega
        · exact h1
      · have : m = n.val := by omega
        subst this
        rw [if_pos stab, rank i hi]
        split <;> omega
  apply List.ext_getElem?
  intro i
  have hlen : (bestF orders).length = 4 := len 24
  rcases Nat.lt_or_ge i 4 with hi | hi
  · have h1 := low 24 (by omega) i hi
    have h2 := up 24 n.isLt i hi
    have e : (bestF orders).getD i 0 = (p i : Int) := by
      show (bestGo orders 24).getD i 0 = _
      omega
    rw [getD_lt 0 (by omega), e]
    unfold plOf
    simp [hi]
  · rw [List.getElem?_eq_none (by omega), List.getElem?_eq_none (by simp [plOf]; omega)]
end
end Mine

/- L9 -/
namespace Mine
section
variable {c : Cx} {A : Around} {env : Env} {ns : List Str} {vals : List (Option D)} {bad : List Addr}
theorem ev_bytes {x : List UInt8} {k : Nat} {pos : Pos} : Ev c A env ns vals bad (.Constant (.bytes x) k pos) (.sc (.bytes x.toArray)) :=
  fun s _ _ => Constant_bytes ⟨.bytes _ _, keeps_tok s _⟩
theorem ev_bytesMul {l r : Expr} {pos : Pos} {b : List UInt8} {n : Int} (hl : Ev c A env ns vals bad l (.sc (.bytes b.toArray))) (hr : Ev c A env ns vals bad r (.sc (.int n))) (hb : b ≠ []) (hlo : -1048576 ≤ n) (hn : n ≤ 1048576) (hs : b.length ≤ 16) :
    Ev c A env ns vals bad (.BinOp l .Mult r pos) (.sc (.bytes ((List.replicate n.toNat b).flatten).toArray)) :=
  ev_binop hl hr fun s v₁ v₂ _ _ h₁ h₂ => by
    have h₁' : ScR v₁ (.bytes b.toArray) := h₁
    obtain ⟨t, rfl⟩ : ∃ t, v₁ = .bytes b.toArray t := by cases h₁'; exact ⟨_, rfl⟩
    have h₂' : ScR v₂ (.int n) := h₂
    obtain ⟨u, rfl⟩ : ∃ u, v₂ = .int n u := by cases h₂'; exact ⟨_, rfl⟩
    exact bytes_mul_any hb hlo hn hs fun t' k => ⟨.bytes _ _, keeps_tok s k⟩
theorem ev_bytesAdd {l r : Expr} {pos : Pos} {a b : Array UInt8} (hl : Ev c A env ns vals bad l (.sc (.bytes a))) (hr : Ev c A env ns vals bad r (.sc (.bytes b))) (hz : a.size + b.size ≤ 100000) :
    Ev c A env ns vals bad (.BinOp l .Add r pos) (.sc (.bytes (a ++ b))) :=
  ev_binop hl hr fun s v₁ v₂ _ _ h₁ h₂ => by
    have h₁' : ScR v₁ (.bytes a) := h₁
    obtain ⟨t, rfl⟩ : ∃ t, v₁ = .bytes a t := by cases h₁'; exact ⟨_, rfl⟩
    have h₂' : ScR v₂ (.bytes b) := h₂
    obtain ⟨u, rfl⟩ : ∃ u, v₂ = .bytes b u := by cases h₂'; exact ⟨_, rfl⟩
    exact KBy.add_bytes (by omega) fun t' k => ⟨.bytes _ _, keeps_tok s k⟩
/-- isinstance(x, bytes) of bytes -/
theorem ev_isi {x y : Str} {p p' pos : Pos} {e : Expr} {b : Array UInt8} (hx : env.kindOf x = some .globalImplicit) (hg : c.mg x = none) (hm : c.mb x = some (.builtin "isinstance")) (hb : (x == ("__debug__" : Str)) = false)
    (hy : env.kindOf y = some .globalImplicit) (hgy : c.mg y = none) (hmy : c.mb y = some (.type "bytes")) (hby : (y == ("__debug__" : Str)) = false)
    (he : Ev c A env ns vals bad e (.sc (.bytes b)))
    (hs : starEach [e, .Name y p'] env = (false, eval e env) :: starEach [.Name y p'] env)
    (hs' : starEach [.Name y p'] env = (false, eval (.Name y p') env) :: starEach [] env)
    (hp : (backTo pos (starEach [.Name y p'] env)).any (·.1) = false)
    (hc : eval (.Call (.Name x p) [e, .Name y p'] [] pos) env = (do callWith pos (← eval (.Name x p) env) [] (backTo pos (starEach [e, .Name y p'] env)) (backToKw pos (keywordEach [] env)))) :
    Ev c A env ns vals bad (.Call (.Name x p) [e, .Name y p'] [] pos) (.sc (.bool true)) := by
  intro s G V
  refine Call_ (Calls.Name_function_global V.fn hx (Calls.loadGlobal_builtin (mg := c.mg) (mb := c.mb) (V.gl ▸ G.g) hg (V.bu ▸ G.b) hm ?_) hb) hc
  refine callWith_builtin1 (args_cons (wpAny_mono (he s G V) (fun v s₁ q => ?_) fun _ _ x => x) hs) hs hp
  have k := keeps_kh q.2
  have V₁ := V.keeps k
  have G₁ := G.keeps k
  refine args_cons (Calls.Name_function_global V₁.fn hy (Calls.loadGlobal_builtin (mg := c.mg) (mb := c.mb) (V₁.gl ▸ G₁.g) hgy (V₁.bu ▸ G₁.b) hmy ?_) hby) hs'
  refine args_nil ?_
  refine wpAny_mono (bi_isi_bytes (bad := bad) (x := b) (.type "bytes") rfl G₁ q.1) (fun r s₂ z => ?_) fun _ _ x => x
  obtain ⟨rfl, k'⟩ := z
  exact ⟨.bool true, keeps_trans q.2 k'⟩
theorem ev_and {e₁ e₂ : Expr} {pos : Pos} {b : Bool} (h₁ : Ev c A env ns vals bad e₁ (.sc (.bool true))) (h₂ : Ev c A env ns vals bad e₂ (.sc (.bool b))) : Ev c A env ns vals bad (.BoolOp .And [e₁, e₂] pos) (.sc (.bool b)) := by
  intro s G V
  refine BoolOp_and (wpAny_mono (h₁ s G V) (fun v s₁ q => ?_) fun _ _ x => x)
  obtain ⟨q, k⟩ := q
  have q' : ScR v (.bool true) := q
  cases q'
  refine wpAny_truthy_bool ?_
  show wpAny _ _ (eval (.BoolOp .And [e₂] pos) env) _ _ _
  refine BoolOp_one (wpAny_mono (h₂ s₁ (G.keeps (keeps_kh k)) (V.keeps (keeps_kh k))) (fun v s₂ z => ⟨z.1, keeps_trans k z.2⟩) fun _ _ x => x)

/-! the script -/
def pickI (xs : List Int) (lo hi st : Option Int) : List Int :=
  (sliceRange (sliceBounds lo hi st xs.length).1 (sliceBounds lo hi st xs.length).2.1 (sliceBounds lo hi st xs.length).2.2).filterMap (xs[·]?)
theorem pick_ints (xs : List Int) (lo hi st : Option Int) : pick (sInts xs) lo hi st = sInts (pickI xs lo hi st) := by
  unfold pick pickI
  rw [List.length_map]
  show List.filterMap (fun x => (xs.map Sc.int)[x]?) _ = List.map Sc.int (List.filterMap (fun x => xs[x]?) _)
  rw [List.map_filterMap]
  congr 1
  funext i
  rw [List.getElem?_map]
theorem paired_ints : ∀ {vs : List Value} {ns : List Int}, IntsAre vs ns → Paired ScR vs (sInts ns)
  | _, _, .nil => .nil
  | _, _, .cons n t r => .cons (.int n t) (paired_ints r)
theorem ev_script {value st : Expr} {lower upper : Option Expr} {p pos : Pos} {a : Addr} {items : Array Value} {xs : List Int} {lo hi : Option Int} {k : Int} (hS : ∀ h, c.K.In h → h.IsList a items) (hI : IntsAre items.toList xs)
    (hl : Ev c A env ns vals bad value (.own a))
    (h1 : EvP c A env ns vals bad lower lo) (h2 : EvP c A env ns vals bad upper hi) (h3 : Ev c A env ns vals bad st (.sc (.int k))) (hk : k ≠ 0) (hz : xs.length ≤ 1000) :
    Ev c A env ns vals bad (.Subscript value (.Slice lower upper (some st) p) pos) (.list (sInts (pickI xs lo hi (some k)))) := by
  intro s G V
  have hq := paired_ints hI
  refine Subscript_ (wpAny_mono (hl s G V) (fun v s₁ q₁ => ?_) fun _ _ x => x)
  have k₁ := keeps_kh q₁.2
  refine ev_slice_any (G.keeps k₁) (V.keeps k₁) h1 h2 (evp_some h3) fun a' vl vu vst s₂ k₂ hsl pl pu ps => ?_
  obtain ⟨q, kk⟩ := q₁
  have q' : v = .ref a := q
  subst q'
  have hp₂ := hS _ ((G.keeps k₁).keeps (keeps_kh k₂)).k
  refine tail_any hp₂.typeIs slot_list_getitem.lookup (wpAny_getItem_list_slice hp₂ hsl pl pu ps (by intro e; cases e; exact hk rfl) ?_ (by rw [paired_size hq, sizeLine_eq]; simp; omega)) rfl
  rw [← pick_ints]
  refine ⟨⟨_, _, rfl, ?_, ⟨_, Heap.get?_push_size _ rfl⟩, paired_pick hq ..⟩, keeps_trans kk (keeps_trans k₂ (keeps_push' _ _))⟩
  exact ((V.live.keeps k₁).keeps (keeps_kh k₂)).fresh (Nat.le_refl _)
end

/-! the law's words -/
def nameL : Nat → List Nat
  | 0 => [92, 83, 101, 101, 110]
  | 1 => [70, 76, 65, 71, 83]
  | 2 => [98, 133, 46, 99, 40]
  | _ => [92, 83, 101, 101, 110]
def wordL (p : Nat → Nat) (i : Nat) : List Nat := List.replicate (p i + 1) 46 ++ nameL i
theorem name_ok (i : Nat) : ∀ c ∈ nameL i, plainC c = true := by
  match i with
  | 0 => decide
  | 1 => decide
  | 2 => decide
  | i + 3 => show ∀ c ∈ [92, 83, 101, 101, 110], plainC c = true; decide
theorem name_len (i : Nat) : (nameL i).length = 5 := by
  match i with
  | 0 => rfl
  | 1 => rfl
  | 2 => rfl
  | i + 3 => rfl
theorem word_ok (p : Nat → Nat) (i : Nat) : WordOk (wordL p i) := by
  refine ⟨⟨List.replicate (p i) 46 ++ nameL i, rfl⟩, fun c hc => ?_⟩
  rcases List.mem_append.mp hc with q | q
  · rw [(List.mem_replicate.mp q).2]; rfl
  · exact name_ok i c q
theorem word_len (p : Nat → Nat) (i : Nat) : (wordL p i).length = p i + 6 := by unfold wordL; rw [List.length_append, List.length_replicate, name_len]
theorem newW_word (orders : List (List Int)) (p : Nat → Nat) (i : Nat) : newW (decide ((i : Int) ∈ refusedS (suedF (plOf p) orders) orders)) (wordL p i) = wordL (next orders p) i := by
  unfold newW wordL next
  cases decide ((i : Int) ∈ refusedS (suedF (plOf p) orders) orders) <;> simp [List.replicate_succ]
theorem place_fin : ∀ k i : Fin 4, placeOf (S (List.replicate (k.val + 1) 46 ++ nameL i.val)) = ((k.val : Nat) : Int) := by decide +kernel
theorem place_word {p : Nat → Nat} {i : Nat} (hi : i < 4) (hp : p i < 4) : placeOf (S (wordL p i)) = (p i : Int) := place_fin ⟨p i, hp⟩ ⟨i, hi⟩
end Mine

/- L10 -/
namespace Mine

def FnAt (c : Cx) (a : Addr) (i : Nat) : Prop := ∃ pm cd doc o, c.K.lookup a = some o ∧ o.data = .func (fdOf i pm cd doc) ∧ FnOk c a (fdOf i pm cd doc) (bodyOf (defSt i))
structure LawOk (c : Cx) : Prop where
  R : ROk c
  f67 : FnAt c 67 10
  f72 : FnAt c 72 11
  f79 : FnAt c 79 12
  f86 : FnAt c 86 13
  f91 : FnAt c 91 14
  f60 : FnAt c 60 8
  f43 : FnAt c 43 3
  g67 : c.mg "_law_order" = some (.ref 67)
  g72 : c.mg "_law_refused" = some (.ref 72)
  g79 : c.mg "_law_read" = some (.ref 79)
  g86 : c.mg "_law_stable" = some (.ref 86)
  g91 : c.mg "_law_best" = some (.ref 91)
  d0 : c.mg "divmod" = none
  d1 : c.mb "divmod" = some (.builtin "divmod")
  m0 : c.mg "min" = none
  m1 : c.mb "min" = some (.builtin "min")
  l0 : c.mg "len" = none
  l1 : c.mb "len" = some (.builtin "len")
  s0 : c.mg "sum" = none
  s1 : c.mb "sum" = some (.builtin "sum")
  i0 : c.mg "isinstance" = none
  i1 : c.mb "isinstance" = some (.builtin "isinstance")
  b0 : c.mg "bytes" = none
  b1 : c.mb "bytes" = some (.type "bytes")

def nsLaw : List Str := ["script", "own", "orders", "names", "words", "told", "turn", "refused", "best", "due", "nothing"]
def ownL : List Int := [2, 6, 10, 8, 13, 0, 2, 23]
def numOf (xs : List Int) (k : Nat) : Int := (ownL.getD k 0 + (pickI xs (some (k : Nat)) none (some 8)).sum).fmod 24
def ordersOf (xs : List Int) : List (List Int) := (List.range 8).map fun k => orderOf (numOf xs k)
theorem num_rng (xs : List Int) (k : Nat) : 0 ≤ numOf xs k ∧ numOf xs k < 24 := ⟨Int.fmod_nonneg_of_pos _ (by decide), Int.fmod_lt_of_pos _ (by decide)⟩
theorem orders_ok (xs : List Int) : OrdOk (ordersOf xs) := by
  have at8 : ∀ i, i < 8 → (ordersOf xs).getD i [] = orderOf (numOf xs i) := fun i hi => by unfold ordersOf; simp [hi]
  have P : ∀ i, PermOk (orderOf (numOf xs i)) := fun i => by
    have h := num_rng xs i
    have := order_perm (numOf xs i).toNat (by omega)
    rwa [Int.toNat_of_nonneg h.1] at this
  refine ⟨by simp [ordersOf], fun i hi => ?_, fun i hi => ?_, fun i hi => ?_⟩
  · rw [at8 i hi]; exact (P i).len
  · rw [at8 i hi]; exact (P i).rng
  · rw [at8 i hi]; exact (P i).all
def namesL : List (List Nat) := (List.range 4).map nameL
def wordsS (p : Nat → Nat) : List Str := (List.range 4).map fun i => S (wordL p i)
theorem words_place {p : Nat → Nat} (hp : ∀ i, i < 4 → p i < 4) : (wordsS p).map placeOf = plOf p := by
  unfold wordsS plOf
  rw [List.map_map]
  apply List.map_congr_left
  intro i hi
  exact place_word (List.mem_range.mp hi) (hp i (List.mem_range.mp hi))

section
variable {c : Cx} {A : Around} {L a : Addr} {pm cd doc : Value}
abbrev lawEnv (pm cd doc : Value) (L a : Addr) : Env := callEnvC (fdOf 15 pm cd doc) L a

/-- one turn -/
theorem law_turn (hA : AN A 2) (K : LawOk c) {sa : Addr} {xs : List Int} {p : Nat → Nat} {j : Nat} {v5 v7 : Option D} {Φ : Out → Prop} (g : GS (ordersOf xs) p)
    (hn : ∀ (q : List Int), q = refusedS (suedF (plOf p) (ordersOf xs)) (ordersOf xs) →
      Φ ((if q = [] then Out.brk else Out.next) [] [some (.own sa), some (.list (sInts ownL)), some (.lists ((ordersOf xs).map sInts)), some (.list (sStrs (namesL.map S))), some (.list (sStrs (wordsS (next (ordersOf xs) p)))),
        some (.tuple (sBytes ((List.range 4).map fun i => byt (S (wordL (next (ordersOf xs) p) i))))), some (.sc (.int (j : Nat))), some (.list (sInts q)), none, none, none])) :
    Exs c A (lawEnv pm cd doc L a) nsLaw (match (bodyOf (defSt 15)) with | _ :: _ :: _ :: _ :: _ :: .For _ _ b _ _ :: _ => b | _ => []) []
      [some (.own sa), some (.list (sInts ownL)), some (.lists ((ordersOf xs).map sInts)), some (.list (sStrs (namesL.map S))), some (.list (sStrs (wordsS p))), v5, some (.sc (.int (j : Nat))), v7, none, none, none] Φ := by
  have O := orders_ok xs
  have hp : ∀ i, i < 4 → p i < 4 := fun i hi => gs_lt O g hi
  obtain ⟨pm2, cd2, doc2, o72, k72, d72, F72⟩ := K.f72
  obtain ⟨pm3, cd3, doc3, o79, k79, d79, F79⟩ := K.f79
  obtain ⟨pm4, cd4, doc4, o60, k60, d60, F60⟩ := K.f60
  obtain ⟨pm5, cd5, doc5, o43, k43, d43, F43⟩ := K.f43
  have hpl := words_place hp
  have rs := refused_spec (words := wordsS p) hA.ok hA.d1 hA.u1 K.R.r0 K.R.r1 K.l0 K.l1 F72 O (by simp [wordsS]) (fun w hw => by
    obtain ⟨i, hi, rfl⟩ := List.mem_map.mp hw
    have := hp i (List.mem_range.mp hi)
    rw [S_len, word_len]; omega) (fun i hi => by
    rw [hpl]
    have := hp i hi
    have e : (plOf p).getD i 0 = (p i : Int) := by unfold plOf; simp [hi]
    rw [e]; omega)
  rw [hpl] at rs
  generalize hq : refusedS (suedF (plOf p) (ordersOf xs)) (ordersOf xs) = q at rs
  have hn' := hn q hq.symm
  have rd := read_spec (rs := q) (ws := wordL p) (t := j) hA K.R F79 F60 F43 k60 d60 k43 d43 (fun i hi => word_ok p i) (fun i hi => by have := hp i hi; rw [word_len]; omega)
  have enw : ((List.range 4).map fun (i : Nat) => byt (S (newW (decide ((i : Int) ∈ q)) (wordL p i)))) = (List.range 4).map fun i => byt (S (wordL (next (ordersOf xs) p) i)) := by
    apply List.map_congr_left
    intro i _
    rw [← hq, newW_word]
  rw [enw] at rd
  refine exs_cons (ex_assign 7 (ev_call_def rfl K.g72 rfl k72 d72 (evs_cons (ev_name 4 rfl rfl (.inl rfl) rfl) (evs_cons (ev_name 2 rfl rfl (.inl rfl) rfl) evs_nil rfl) rfl) rs.bi rfl rfl) rfl (.inl rfl) ?_ rfl)
  refine exs_cons (ex_assign 5 (ev_call_def rfl K.g79 rfl k79 d79 (evs_cons (ev_name 4 rfl rfl (.inl rfl) rfl) (evs_cons (ev_name 7 rfl rfl (.inl rfl) rfl) (evs_cons (ev_name 6 rfl rfl (.inl rfl) rfl) evs_nil rfl) rfl) rfl) rd rfl rfl) rfl (.inl rfl) ?_ rfl)
  refine exs_cons (ex_if (b := false) (evb_cmp (d₁ := .sc (.int 4)) (ev_eq (ev_call_builtin (id := "len") rfl K.l0 K.l1 rfl (evs_cons (ev_name 5 rfl rfl (.inl rfl) rfl) evs_nil rfl) (bi_len_tuple (by simp)) rfl rfl rfl) (by simp)) ev_int cmp_ne_int rfl) (fun hb => nomatch hb) (fun _ => exs_nil ?_))
  refine exs_cons (ex_assignComp 4 (xs := sBytes ((List.range 4).map fun i => byt (S (wordL (next (ordersOf xs) p) i)))) (fun _ => true) (fun d => match d with | .bytes b => .str ⟨natsOf b⟩ | d => d) rfl rfl (it_tuple hA.ok (ev_name 5 rfl rfl (.inl rfl) rfl)) rfl rfl (by decide) rfl (by decide) rfl .nil
    (fun C d hd => evt_nil) (fun C d hd _ => ?_) (by simp) (fun _ => rfl) ?_)
  · obtain ⟨b, hb, rfl⟩ := List.mem_map.mp hd
    obtain ⟨i, hi, rfl⟩ := List.mem_map.mp hb
    have hi4 := List.mem_range.mp hi
    have hl : (wordL (next (ordersOf xs) p) i).length ≤ 100 := by
      have := (gs_next O g).lt i hi4
      rw [word_len]; omega
    refine ev_method1 (T := "bytes") (id := "bytes.decode") (ev_name 0 rfl rfl (.inl rfl) rfl) ofType_bytes FB.plainAttrs_bytes FB.slot_bytes_decode FB.type_bytes_decode (d₁ := .sc (.str latin)) ev_str (bi_decode ?_ ?_) rfl rfl rfl rfl
    · simp [byt]; omega
    · have := word_len (next (ordersOf xs) p) i
      simp [byt]; omega
  · have ew : (((sBytes ((List.range 4).map fun i => byt (S (wordL (next (ordersOf xs) p) i)))).filter (fun _ => true)).map fun d => match d with | .bytes b => Sc.str ⟨natsOf b⟩ | d => d) = sStrs (wordsS (next (ordersOf xs) p)) := by
      rw [filter_tt]
      unfold wordsS sBytes sStrs
      rw [List.map_map, List.map_map, List.map_map]
      apply List.map_congr_left
      intro i _
      show Sc.str ⟨natsOf (byt (S (wordL (next (ordersOf xs) p) i)))⟩ = Sc.str (S (wordL (next (ordersOf xs) p) i))
      rw [nats_byt fun c hc => (plain_ne ((word_ok _ i).ok c hc)).1]
    rw [ew]
    refine exs_cons (ex_if (b := decide (q = [])) (evb_cmp (d₂ := .list (sInts [])) (ev_name 7 rfl rfl (.inl rfl) rfl) (ev_list (xs := sInts []) evs_nil (by decide)) (cmp_eq_ints hA.ok) rfl) (fun hb => ?_) (fun hb => ?_))
    · have hb' : q = [] := of_decide_eq_true hb
      rw [if_pos hb'] at hn'
      exact exs_cons (ex_break hn')
    · have hb' : ¬ q = [] := of_decide_eq_false hb
      rw [if_neg hb'] at hn'
      exact exs_nil (exs_nil hn')
end
end Mine

/- L11 -/
namespace Mine

/-! the two small replies -/
def x1 : List Nat := [70, 76, 65, 71, 83, 32, 40, 13, 41]
def y1 : List Nat := [70, 76, 65, 71, 83, 32, 40, 13, 10, 41]
def x2 : List Nat := [13, 70, 76, 65, 71, 83, 32, 40, 46, 121, 41]
def y2 : List Nat := [13, 10, 70, 76, 65, 71, 83, 32, 40, 46, 121, 41]
theorem quote1 : quoteF (S x1) = S y1 := by
  show S (quoteL x1) = S y1
  rw [show quoteL x1 = y1 by decide +kernel]
theorem quote2 : quoteF (S x2) = S y2 := by
  show S (quoteL x2) = S y2
  rw [show quoteL x2 = y2 by decide +kernel]
section
variable {c : Cx} {A : Around} {pm cd doc : Value}
theorem parse1 (hA : AN A 1) (f : FOk c) (F : FnOk c 43 (fdOf 3 pm cd doc) (bodyOf (defSt 3))) : Bi c A [] (.ref 43) [.sc (.bytes (byt (S y1)))] (.tuple (sBytes [])) := by
  have hn : natsOf (byt (S y1)) = y1.toArray := nats_byt (by decide)
  have x := matchF (text := y1.toArray) (lim := y1.toArray.size) (L := 8) (p := 0) (m := 2) (by decide) (by decide) (by decide) (by decide) (by decide) (by decide) (fun q h1 h2 => (show ∀ q, q ≤ 8 → 0 < q → litsAt y1.toArray y1.toArray.size q flg = false by decide) q h2 h1) (by decide) (by decide) (by decide)
  rw [← hn] at x
  have he : ((byt (S y1)).extract 7 9) = #[13, 10] := by decide +kernel
  have := parse_yes hA f F (b := byt (S y1)) (p := 7) (e := 9) (ws := []) (by simp [byt, y1]) (by decide) (by decide) x (by rw [he]; decide +kernel) (by rw [he]; decide +kernel) (by decide) (by simp)
  exact this
theorem parse2 (hA : AN A 1) (f : FOk c) (F : FnOk c 43 (fdOf 3 pm cd doc) (bodyOf (defSt 3))) : Bi c A [] (.ref 43) [.sc (.bytes (byt (S y2)))] (.tuple (sBytes [])) := by
  have hn : natsOf (byt (S y2)) = y2.toArray := nats_byt (by decide)
  have x := matchF_no (text := y2.toArray) (lim := y2.toArray.size) (L := 1) (by decide) (by decide) (by decide) (by decide) (by decide)
  rw [← hn] at x
  exact parse_no hA f F (b := byt (S y2)) (by simp [byt, y2]) (by decide) x
end

section
variable {c : Cx} {A : Around} {L a : Addr} {pm cd doc : Value}
theorem ev_sent {env : Env} {ns : List Str} {vals : List (Option D)} (hA : AN A 2) (K : LawOk c) {p1 p2 p3 p4 p5 p6 : Pos} {x y : List Nat} {k1 k2 : Nat} (hx : x.length ≤ 100) (hy : ∀ c ∈ y, c < 256) (hyl : y.length ≤ 200) (hq : quoteF (S x) = S y)
    (hp : ∀ {pm cd doc : Value}, FnOk c 43 (fdOf 3 pm cd doc) (bodyOf (defSt 3)) → Bi c A [] (.ref 43) [.sc (.bytes (byt (S y)))] (.tuple (sBytes [])))
    (kq : env.kindOf "quotedata" = some .globalImplicit) (kp : env.kindOf "ParseFlags" = some .globalImplicit) {e1 e2 e3 : Expr}
    (h1 : e1 = .Constant (.str (S x)) k1 p1) (h2 : e2 = .Call (.Name "quotedata" p2) [e1] [] p3) (h3 : e3 = .Call (.Attribute e2 "encode" p4) [.Constant (.str latin) k2 p5] [] p6) (hl : (p4.endLine == p6.line) = true) {p7 p8 : Pos}
    (hb : attributeBase e2 "encode" env (eval e2 env) = eval e2 env) :
    Ev c A env ns vals [] (.Call (.Name "ParseFlags" p7) [e3] [] p8) (.tuple (sBytes [])) := by
  subst h1 h2 h3
  obtain ⟨pm4, cd4, doc4, o60, k60, d60, F60⟩ := K.f60
  obtain ⟨pm5, cd5, doc5, o43, k43, d43, F43⟩ := K.f43
  have hA0 : AN A 0 := ⟨hA.hh, by have := hA.un; omega, by have := hA.dp; omega⟩
  have qs := quote_spec (x := S x) hA0 K.R.q F60 (by show x.toArray.size ≤ _; rw [List.size_toArray]; omega)
  rw [hq] at qs
  refine ev_call_def kp K.R.gp rfl k43 d43 (evs_cons (ev_method1 (T := "str") (id := "str.encode") (ev_call_def kq K.R.gq rfl k60 d60 (evs_cons ev_str evs_nil rfl) qs rfl rfl) ofType_str PySem.F.plainAttrs_str FR.slot_encode FR.type_encode (d₁ := .sc (.str latin)) ev_str (bi_encode hy ?_) hb rfl rfl hl) evs_nil rfl) (hp F43) rfl rfl
  show y.toArray.size ≤ _
  rw [List.size_toArray]; omega
end
end Mine

/- L12 -/
namespace Mine
section
variable {c : Cx} {A : Around} {L a : Addr} {pm cd doc : Value}
theorem due_eq {p : Nat → Nat} {i : Nat} (hi : i < 4) : ((List.replicate ((p i : Int) + 1).toNat [(46 : UInt8)]).flatten).toArray ++ byt (S (nameL i)) = byt (S (wordL p i)) := by
  apply Array.toList_inj.mp
  have e : ((p i : Int) + 1).toNat = p i + 1 := by omega
  rw [e]
  unfold wordL
  simp [byt]
set_option maxHeartbeats 4000000 in
theorem law_end (hA : AN A 2) (K : LawOk c) {sa : Addr} {xs : List Int} {p : Nat → Nat} {v4 v6 v7 : Option D} (g : GS (ordersOf xs) p) (hr : refusedS (suedF (plOf p) (ordersOf xs)) (ordersOf xs) = []) :
    Exs c A (lawEnv pm cd doc L a) nsLaw (match (bodyOf (defSt 15)) with | _ :: _ :: _ :: _ :: _ :: _ :: r => r | _ => []) []
      [some (.own sa), some (.list (sInts ownL)), some (.lists ((ordersOf xs).map sInts)), some (.list (sStrs (namesL.map S))), v4, some (.tuple (sBytes ((List.range 4).map fun i => byt (S (wordL p i))))), v6, v7, none, none, none]
      (fun o => o = .ret (.sc (.bool true))) := by
  have O := orders_ok xs
  have hp : ∀ i, i < 4 → p i < 4 := fun i hi => gs_lt O g hi
  obtain ⟨pm1, cd1, doc1, o67, k67, d67, F67⟩ := K.f67
  obtain ⟨pm2, cd2, doc2, o86, k86, d86, F86⟩ := K.f86
  obtain ⟨pm3, cd3, doc3, o91, k91, d91, F91⟩ := K.f91
  have hA1 : AN A 1 := ⟨hA.hh, by have := hA.un; omega, by have := hA.dp; omega⟩
  have bs := best_spec hA K.R.r0 K.R.r1 K.d0 K.d1 K.m0 K.m1 K.g67 K.g86 k67 d67 k86 d86 F91 F67 F86 O
  rw [gs_best O g hr] at bs
  refine exs_cons (ex_assign 8 (ev_call_def rfl K.g91 rfl k91 d91 (evs_cons (ev_name 2 rfl rfl (.inl rfl) rfl) evs_nil rfl) bs rfl rfl) rfl (.inr ⟨rfl, rfl⟩) ?_ rfl)
  refine exs_cons (ex_assignComp 9 (xs := rangeS 4) (fun _ => true) (fun d => match d with | .int k => .bytes (byt (S (wordL p k.toNat))) | d => d) rfl rfl (it_range (n := 4) hA.ok rfl K.R.r0 K.R.r1 rfl ev_int (by decide) rfl rfl) rfl rfl (by decide) rfl (by decide) rfl
    (.cons 8 rfl rfl rfl rfl rfl (.cons 3 rfl rfl rfl rfl rfl .nil)) (fun C d hd => evt_nil) (fun C d hd _ => ?_) (by decide) (fun _ => rfl) ?_)
  · obtain ⟨i, hi, rfl⟩ := rangeS_mem hd
    have hpi := hp i hi
    have e1 : (sInts (plOf p))[((i : Nat) : Int).toNat]? = some (.int (p i : Int)) := by
      rw [Int.toNat_natCast]; unfold plOf; simp [hi]
    have e2 : (sStrs (namesL.map S))[((i : Nat) : Int).toNat]? = some (.str (S (nameL i))) := by
      rw [Int.toNat_natCast]; unfold namesL; simp [hi]
    refine ev_eq (ev_bytesAdd (ev_bytesMul (b := [46]) (n := (p i : Int) + 1) ev_bytes (ev_add (ev_item (ev_name 1 rfl rfl (.inr rfl) rfl) (ev_name 0 rfl rfl (.inl rfl) rfl) (by omega) e1 (by simp [plOf]) (fun _ _ => rfl)) ev_int) (by decide) (by omega) (by omega) (by decide))
      (ev_method1 (T := "str") (id := "str.encode") (ev_item (ev_name 2 rfl rfl (.inr rfl) rfl) (ev_name 0 rfl rfl (.inl rfl) rfl) (by omega) e2 (by simp [namesL]) (fun _ _ => rfl)) ofType_str PySem.F.plainAttrs_str FR.slot_encode FR.type_encode (d₁ := .sc (.str latin)) ev_str
        (bi_encode (fun c hc => (plain_ne (name_ok i c hc)).1) ?_) rfl rfl rfl rfl) ?_) ?_
    · show (nameL i).toArray.size ≤ _
      rw [List.size_toArray, name_len]; omega
    · have := name_len i
      simp [byt]; omega
    · show D.sc (.bytes _) = D.sc (.bytes (byt (S (wordL p ((i : Nat) : Int).toNat))))
      rw [Int.toNat_natCast, due_eq hi]
  have ed : (((rangeS 4).filter (fun _ => true)).map fun d => match d with | .int k => Sc.bytes (byt (S (wordL p k.toNat))) | d => d) = sBytes ((List.range 4).map fun i => byt (S (wordL p i))) := by
    rw [filter_tt]
    unfold rangeS sBytes
    rw [List.map_map, List.map_map]
    rfl
  rw [ed]
  refine exs_cons (ex_if (b := false || false) (evb_or2 (evb_cmp (ev_name 5 rfl rfl (.inl rfl) rfl) (ev_call_type (T := "tuple") rfl K.R.f.t0 K.R.f.t1 rfl (evs_cons (ev_name 9 rfl rfl (.inl rfl) rfl) evs_nil rfl) (bi_tuple (by simp)) rfl rfl rfl) ?_ rfl) (fun _ => ?_)) (fun hb => nomatch hb) (fun _ => exs_nil ?_))
  · have := cmp_ne_bytes (c := c) (bad := []) hA.ok (bs := (List.range 4).map fun i => byt (S (wordL p i))) (cs := (List.range 4).map fun i => byt (S (wordL p i)))
    rw [decide_eq_true rfl] at this
    exact this
  · refine evb_cmp (d₁ := .list (sInts [])) (d₂ := .list (sInts [])) (ev_eq (ev_comp (xs := sBytes ((List.range 4).map fun i => byt (S (wordL p i)))) (fun _ => false) (fun d => d) (it_tuple hA.ok (ev_name 5 rfl rfl (.inl rfl) rfl)) rfl (by decide) rfl (by decide) rfl .nil
      (fun C d hd => ?_) (fun C d hd h => nomatch h) (by simp) (fun _ => rfl)) ?_) (ev_list (xs := sInts []) evs_nil (by decide)) (cmp_ne_ints hA.ok (ks := []) (js := [])) rfl
    · obtain ⟨b, hb, rfl⟩ := List.mem_map.mp hd
      exact evt_one (evb_not (evb_bool (ev_isi rfl K.i0 K.i1 rfl rfl K.b0 K.b1 rfl (ev_name 0 rfl rfl (.inl rfl) rfl) rfl rfl rfl rfl) rfl))
    · simp
  · refine exs_cons (ex_assign 10 (ev_sent (x := x1) (y := y1) hA K (by decide) (by decide) (by decide) quote1 (fun F => parse1 hA1 K.R.f F) rfl rfl rfl rfl rfl rfl rfl) rfl (.inl rfl) ?_ rfl)
    refine exs_cons (ex_ret (ev_and (ev_eq (ev_cmp (ev_name 10 rfl rfl (.inl rfl) rfl) (ev_tuple (xs := sBytes []) evs_nil (by decide)) (cmp_eq_bytes hA.ok (bs := []) (cs := [])) rfl) (by simp))
      (ev_cmp (ev_sent (x := x2) (y := y2) hA K (by decide) (by decide) (by decide) quote2 (fun F => parse2 hA1 K.R.f F) rfl rfl rfl rfl rfl rfl rfl) (ev_tuple (xs := sBytes []) evs_nil (by decide)) (cmp_eq_bytes hA.ok (bs := []) (cs := [])) rfl)) ?_)
    simp
    rfl

set_option maxHeartbeats 4000000 in
theorem law_walk (hA : AN A 2) (K : LawOk c) {sa : Addr} {items : Array Value} {xs : List Int} (hS : ∀ h, c.K.In h → h.IsList sa items) (hI : IntsAre items.toList xs) (hz : xs.length ≤ 1000) :
    Exs c A (lawEnv pm cd doc L a) nsLaw (bodyOf (defSt 15)) [] [some (.own sa), none, none, none, none, none, none, none, none, none, none] (fun o => o = .ret (.sc (.bool true))) := by
  have O := orders_ok xs
  obtain ⟨pm1, cd1, doc1, o67, k67, d67, F67⟩ := K.f67
  refine exs_cons (ex_assign 1 (ev_list (xs := sInts ownL) (evs_cons ev_int (evs_cons ev_int (evs_cons ev_int (evs_cons ev_int (evs_cons ev_int (evs_cons ev_int (evs_cons ev_int (evs_cons ev_int evs_nil rfl) rfl) rfl) rfl) rfl) rfl) rfl) rfl) (by decide)) rfl (.inr ⟨rfl, rfl⟩) ?_ rfl)
  refine exs_cons (ex_assignLists 2 (xs := rangeS 8) (fun d => match d with | .int k => sInts (orderOf (numOf xs k.toNat)) | _ => []) rfl rfl (it_range (n := 8) hA.ok rfl K.R.r0 K.R.r1 rfl ev_int (by decide) rfl rfl) rfl rfl (by decide) rfl (by decide) rfl
    (.cons 1 rfl rfl rfl rfl rfl (.cons 0 rfl rfl rfl rfl rfl .nil)) (fun C d hd => ?_) (by decide) (fun _ => rfl) ?_)
  · obtain ⟨i, hi, rfl⟩ := rangeS_mem hd
    have e1 : (sInts ownL)[((i : Nat) : Int).toNat]? = some (.int (ownL.getD i 0)) := by
      rw [Int.toNat_natCast, List.getElem?_map, getD_lt 0 (show i < ownL.length from hi)]; rfl
    have hr := num_rng xs i
    have os := order_spec (n := numOf xs i) hA.ok hA.d1 hA.u1 K.d0 K.d1 F67 hr.1 hr.2
    show EvNew _ _ _ _ _ _ _ (sInts (orderOf (numOf xs ((i : Nat) : Int).toNat)))
    rw [Int.toNat_natCast]
    refine evNew_call_def rfl K.g67 rfl k67 d67 (evs_cons (d := .sc (.int (numOf xs i))) ?_ evs_nil rfl) os rfl rfl
    exact ev_mod (ev_add (ev_item (ev_name 1 rfl rfl (.inr rfl) rfl) (ev_name 0 rfl rfl (.inl rfl) rfl) (by omega) e1 (by decide) (fun _ _ => rfl))
      (ev_call_builtin (id := "sum") rfl K.s0 K.s1 rfl (evs_cons (ev_script hS hI (ev_name 2 rfl rfl (.inr rfl) rfl) (evp_some (ev_name 0 rfl rfl (.inl rfl) rfl)) evp_none ev_int (by decide) hz) evs_nil rfl) (bi_sum hA.ok) rfl rfl rfl)) ev_int (by decide)
  have eo : ((rangeS 8).map fun d => match d with | .int k => sInts (orderOf (numOf xs k.toNat)) | _ => []) = (ordersOf xs).map sInts := by
    unfold rangeS ordersOf
    rw [List.map_map, List.map_map]
    rfl
  rw [eo]
  refine exs_cons (ex_assign 3 (ev_list (xs := sStrs (namesL.map S)) (evs_cons ev_str (evs_cons ev_str (evs_cons ev_str (evs_cons ev_str evs_nil rfl) rfl) rfl) rfl) (by decide)) rfl (.inr ⟨rfl, rfl⟩) ?_ rfl)
  refine exs_cons (ex_assignComp 4 (xs := sStrs (namesL.map S)) (fun _ => true) (fun d => match d with | .str x => .str (S (46 :: x.cps.toList)) | d => d) rfl rfl (it_list hA.ok (ev_name 3 rfl rfl (.inr rfl) rfl)) rfl rfl (by decide) rfl (by decide) rfl .nil
    (fun C d hd => evt_nil) (fun C d hd _ => ?_) (by decide) (fun _ => rfl) ?_)
  · obtain ⟨w, hw, rfl⟩ := List.mem_map.mp hd
    obtain ⟨l, hl, rfl⟩ := List.mem_map.mp hw
    obtain ⟨i, hi, rfl⟩ := List.mem_map.mp hl
    have := name_len i
    exact ev_addS (a := [46]) (b := nameL i) ev_str (ev_name 0 rfl rfl (.inl rfl) rfl) (by simp; omega)
  have ew : (((sStrs (namesL.map S)).filter (fun _ => true)).map fun d => match d with | .str x => Sc.str (S (46 :: x.cps.toList)) | d => d) = sStrs (wordsS fun _ => 0) := by
    rw [filter_tt]
    unfold namesL wordsS sStrs
    rw [List.map_map, List.map_map, List.map_map, List.map_map]
    rfl
  rw [ew]
  refine exs_cons (ex_assign 5 (ev_tuple (xs := sBytes []) evs_nil (by decide)) rfl (.inl rfl) ?_ rfl)
  refine exs_cons (ex_for 6 (xs := rangeS 10) (it_range (n := 10) hA.ok rfl K.R.r0 K.R.r1 rfl ev_int (by decide) rfl rfl) rfl (.inl rfl) ?_ (fun _ => rfl) fun _ _ => rfl)
  refine loop_inv (fun j own vals => j ≤ 9 ∧ ∃ p v5 v6 v7, GS (ordersOf xs) p ∧ j ≤ sum4 p ∧ own = [] ∧ vals = [some (.own sa), some (.list (sInts ownL)), some (.lists ((ordersOf xs).map sInts)), some (.list (sStrs (namesL.map S))), some (.list (sStrs (wordsS p))), v5, v6, v7, none, none, none])
    ⟨by omega, fun _ => 0, _, _, _, gs_zero _, by omega, rfl, rfl⟩ ?_ ?_
  · rintro j d own vals hj ⟨h9, p, v5, v6, v7, g, hsum, rfl, rfl⟩
    obtain ⟨i, hi, rfl⟩ := rangeS_mem (List.mem_of_getElem? hj)
    obtain rfl : i = j := by
      have : j < 10 := by omega
      simp [rangeS, this] at hj
      omega
    refine law_turn (j := i) hA K g fun q hq => ?_
    by_cases hqn : q = []
    · rw [if_pos hqn]
      have hr : refusedS (suedF (plOf p) (ordersOf xs)) (ordersOf xs) = [] := by rw [← hq]; exact hqn
      have hnext : next (ordersOf xs) p = p := by
        funext k
        unfold next
        rw [hr]
        rfl
      show Exs _ _ _ _ _ _ _ _
      rw [hnext]
      exact law_end hA K g hr
    · rw [if_neg hqn]
      have hs := sum_next O g (by rw [← hq]; exact hqn)
      exact ⟨by omega, next (ordersOf xs) p, _, _, _, gs_next O g, by omega, rfl, rfl⟩
  · rintro own vals ⟨h9, _⟩
    exact absurd h9 (by show ¬ (rangeS 10).length ≤ 9; decide)
end
end Mine

/- J0 -/
namespace Mine
theorem lookup_app {K K' : Frag} {a : Addr} {o : Obj} (h : K.lookup a = some o) : (K ++ K').lookup a = some o := by
  rw [List.lookup_append, h]; rfl
theorem in_left {K K' : Frag} {h : Heap} (x : (K ++ K').In h) : K.In h := fun a o e => x a o (lookup_app e)
theorem in_add {K : Frag} {h : Heap} {a : Addr} {o : Obj} (x : K.In h) (ho : h.get? a = some o) : (K ++ [(a, o)]).In h := by
  intro b q e
  rw [List.lookup_append] at e
  cases hb : K.lookup b with
  | some z => rw [hb] at e; cases e; exact x b _ hb
  | none =>
    rw [hb] at e
    have e' : [(a, o)].lookup b = some q := e
    rw [List.lookup_cons] at e'
    by_cases hba : (b == a) = true
    · rw [hba] at e'
      cases e'
      rw [beq_iff_eq.mp hba]; exact ho
    · rw [Bool.not_eq_true] at hba
      rw [hba] at e'
      cases e'
theorem add_at {K : Frag} {h₀ h : Heap} {a : Addr} {o : Obj} (x₀ : K.In h₀) (ho : h₀.get? a = some o) (x : (K ++ [(a, o)]).In h) : h.get? a = some o := by
  refine x a o ?_
  cases hb : K.lookup a with
  | some z =>
    have := x₀ a z hb
    rw [ho] at this
    cases this
    exact lookup_app hb
  | none => rw [List.lookup_append, hb]; simp [List.lookup]
/-- a def as it lies in the written part -/
theorem fn_at {c : Cx} {a i ca : Nat} {pm doc : Value} {o oc : Obj} {vs : Array Value} {t : Tok} (h1 : c.K.lookup a = some o) (h2 : o.data = .func (fdOf i pm (.ref ca) doc)) (h3 : c.K.lookup ca = some oc) (h4 : oc.data = .fields vs)
    (h5 : vs[1]? = some (.str (nameOfDef (defSt i)) t)) (hk : (scopeOf (defSt i)).kind = .function) (hco : (scopeOf (defSt i)).isCoroutine = false) (hg : (scopeOf (defSt i)).isGenerator = false) : FnAt c a i :=
  ⟨pm, .ref ca, doc, o, h1, h2, fun h x => ⟨o, x a o h1, h2⟩, fun h x => ⟨ca, oc, vs, t, rfl, x ca oc h3, h4, h5⟩, rfl, rfl, rfl, rfl, hk, hco, hg⟩
theorem pat_at {h : Heap} {K : Frag} (x : K.In h) {a ca : Addr} {o oc : Obj} {fs its : Array Value} {n : Nat} {code : Array Nat} {g w : Nat} (h1 : K.lookup a = some o) (h2 : o.cls = .type "re.Pattern") (h3 : o.dict = none) (h4 : o.data = .fields fs) (h5 : fs.getD 6 .none = rawInt w) (h6 : fs.getD 2 .none = rawInt g)
    (h7 : fs.getD 5 .none = .ref ca) (h8 : K.lookup ca = some oc) (h9 : oc.data = .seq its n) (h10 : (its.map Builtin.Re.reRawOf).map (·.toNat) = code) : PatAt h a code g w :=
  ⟨⟨o, fs, ca, oc, its, n, x _ _ h1, h2, h3, h4, h5, h6, h7, x _ _ h8, h9, h10⟩⟩

set_option maxHeartbeats 8000000 in
theorem law_code {c : Cx} {A : Around} {s : Shared} {fa : Addr} {o : Obj} {fd : FuncData} {pm cd doc : Value} (hA : AN A 3) (G : Gl c s.heap) (K : LawOk c) (ho : s.heap.get? fa = some o) (hd : o.data = .func fd) (hcd : s.heap.CodeRec fd.code fd.qualname)
    (hb : fd.body = .stmts (bodyOf (defSt 15))) (hclo : fd.closure = []) (hsc : fd.scope = scopeOf (defSt 15)) (henv : ∀ L, callEnvC fd L fa = lawEnv pm cd doc L fa)
    (hbind : ∀ v : Value, bindArgs fd ⟨[v], []⟩ = pure [(("script" : Str), v)]) {sa : Addr} {items : Array Value} {xs : List Int} (hS : ∀ h, c.K.In h → h.IsList sa items) (hI : IntsAre items.toList xs) (hz : xs.length ≤ 1000) {R : Result → Shared → Prop}
    (hR : ∀ s', Keeps s s' → R (.ok (.ret (.bool true))) s') : codeAny (model c.prog c.w) A (.call (.ref fa) ⟨[.ref sa], []⟩) R s := by
  have hcell : ∀ n, ((cellsFrom n fd.scope.names []).lookup ("script" : Str)).isSome = true := fun n => by rw [hsc]; rfl
  have hkc : fd.scope.names.lookup ("script" : Str) = some .cell := by rw [hsc]; rfl
  refine codeAny_call_cells hA.ok.dp ho hd G.lim hcd hb (hbind _) hclo (fun x hx => ?_) (fun s₁ X => ?_) (by rw [hsc]; rfl) (by rw [hsc]; rfl) (by rw [hsc]; rfl)
  · rw [List.mem_singleton.mp hx]; exact .inr ⟨hkc, hcell _⟩
  have st : St c s (callEnvC fd s.heap.objs.size fa) nsLaw [] [some (.own sa), none, none, none, none, none, none, none, none, none, none] s₁ := by
    have keeps : Keeps s s₁ := X.done
    refine ⟨G, keeps, ⟨by rw [henv]; rfl, by rw [henv]; rfl, by rw [henv]; rfl, ⟨_, X.toInCall.ns, fun i x d e1 b q => ?_⟩, fun i x d e1 b q => ?_, fun _ q => nomatch q⟩, Nat.le_refl _, fun x cc e => ⟨⟨_, X.cell x cc e⟩, X.above x cc (mem_of_lookup e)⟩, X.apart, (by decide), fun _ q => (nomatch q), .nil⟩
    · match i with
      | 0 =>
        have hx : x = "script" := by simpa [nsLaw] using e1.symm
        subst hx
        have q' : fd.scope.names.lookup ("script" : Str) = some .local := q
        rw [hkc] at q'; cases q'
      | i + 1 =>
        exfalso
        have : ([none, none, none, none, none, none, none, none, none, none] : List (Option D))[i]? = some (some d) := b
        have := List.mem_of_getElem? this
        simp at this
    · match i with
      | 0 =>
        have hx : x = "script" := by simpa [nsLaw] using e1.symm
        subst hx
        have hd' : d = .own sa := by simpa using b.symm
        subst hd'
        obtain ⟨cc, hc⟩ := Option.isSome_iff_exists.mp (hcell (s.heap.objs.size + 1))
        have := X.cell "script" cc hc
        have e : bindC (callEnvC fd s.heap.objs.size fa).kindOf [(("script" : Str), Value.ref sa)] (fun _ => none) "script" = some (.ref sa) := by
          have q' : (callEnvC fd s.heap.objs.size fa).kindOf "script" = some .cell := q
          simp [bindC, q']
        rw [e] at this
        exact ⟨cc, .ref sa, hc, this, rfl⟩
      | i + 1 =>
        exfalso
        have : ([none, none, none, none, none, none, none, none, none, none] : List (Option D))[i]? = some (some d) := b
        have := List.mem_of_getElem? this
        simp at this
  rw [henv] at st ⊢
  have W := law_walk (pm := pm) (cd := cd) (doc := doc) (L := s.heap.objs.size) (a := fa) (A := A.deeper (lawEnv pm cd doc s.heap.objs.size fa)) hA.deeper K hS hI hz
  refine wpAny_mono (W s s₁ st) (fun f s' q => ?_) fun _ _ x => x.elim
  obtain ⟨_, o', rfl, v, rfl, hr, k⟩ := q
  have hr' : ScR v (.bool true) := hr
  cases hr'
  exact hR s' k
end Mine

/- Hd -/
section
set_option maxHeartbeats 0
namespace Mine
open_top hd for PySem.Challenge.rw_pk0007_01
end Mine
end

/- J1 -/
section
set_option maxHeartbeats 0
namespace Mine
noncomputable abbrev KH9 (w : World) : Frag := Mine.hd.heap_39 w.params
theorem law_ok {prog : Program} {w : World} {mg mb : Str → Option Value} {h : Heap} {K' : Frag} (X : (KH9 w).In h) (G : h.Ns mainGlobals mg) (B : ∀ x : Str, x ≠ "__name__" → mb x = bootBuiltins x) : LawOk ⟨prog, w, mg, mb, KH9 w ++ K'⟩ := by
  have bt : ∀ (x : Str) (v : Value), x ≠ "__name__" → bootBuiltins x = some v → mb x = some v := fun x v h1 h2 => (B x h1).trans h2
  refine {
    R := { q := { g1 := mg_of X G rfl, g2 := mg_of X G rfl, g3 := ⟨_, mg_of X G rfl⟩
                  p1 := fun h' x => pat_at (in_left x) rfl rfl rfl rfl rfl rfl rfl rfl rfl (by decide +kernel)
                  p2 := fun h' x => pat_at (in_left x) rfl rfl rfl rfl rfl rfl rfl rfl rfl (by decide +kernel) }
           f := { g := mg_of X G rfl
                  p := fun h' x => pat_at (in_left x) rfl rfl rfl rfl rfl rfl rfl rfl rfl (by decide +kernel)
                  d := fun h' x => ?_
                  t0 := mg_none_of X G rfl
                  t1 := bt _ _ (by decide) (by decide +kernel) }
           r0 := mg_none_of X G rfl
           r1 := bt _ _ (by decide) (by decide +kernel)
           gq := mg_of X G rfl
           gp := mg_of X G rfl }
    f67 := fn_at (lookup_app rfl) rfl (lookup_app rfl) rfl rfl rfl rfl rfl
    f72 := fn_at (lookup_app rfl) rfl (lookup_app rfl) rfl rfl rfl rfl rfl
    f79 := fn_at (lookup_app rfl) rfl (lookup_app rfl) rfl rfl rfl rfl rfl
    f86 := fn_at (lookup_app rfl) rfl (lookup_app rfl) rfl rfl rfl rfl rfl
    f91 := fn_at (lookup_app rfl) rfl (lookup_app rfl) rfl rfl rfl rfl rfl
    f60 := fn_at (lookup_app rfl) rfl (lookup_app rfl) rfl rfl rfl rfl rfl
    f43 := fn_at (lookup_app rfl) rfl (lookup_app rfl) rfl rfl rfl rfl rfl
    g67 := mg_of X G rfl
    g72 := mg_of X G rfl
    g79 := mg_of X G rfl
    g86 := mg_of X G rfl
    g91 := mg_of X G rfl
    d0 := mg_none_of X G rfl
    d1 := bt _ _ (by decide) (by decide +kernel)
    m0 := mg_none_of X G rfl
    m1 := bt _ _ (by decide) (by decide +kernel)
    l0 := mg_none_of X G rfl
    l1 := bt _ _ (by decide) (by decide +kernel)
    s0 := mg_none_of X G rfl
    s1 := bt _ _ (by decide) (by decide +kernel)
    i0 := mg_none_of X G rfl
    i1 := bt _ _ (by decide) (by decide +kernel)
    b0 := mg_none_of X G rfl
    b1 := bt _ _ (by decide) (by decide +kernel) }
  refine ⟨⟨_, _, 33, fun k => if k = Str.ofString "flags" then some (.int 1 328) else none, 328, in_left x 36 _ rfl, rfl, rfl, ⟨_, _, _, in_left x 33 _ rfl, ⟨rfl, rfl, rfl⟩, rfl, ?_, ?_⟩, rfl⟩⟩
  · intro e he
    simp only [List.mem_toArray, List.mem_singleton] at he
    subst he
    exact ⟨Str.ofString "flags", strKind_is _ _ _ _, rfl⟩
  · intro k
    by_cases hk : k = Str.ofString "flags"
    · subst hk; rfl
    · show _ = if k = Str.ofString "flags" then some (Value.int 1 328) else none
      rw [if_neg hk]
      unfold findBy
      simp only [List.find?_toArray, List.find?_cons, List.find?_nil]
      have : (strKind prog w).is k (.str (Str.ofString "flags") 327) = false := by
        cases q : (strKind prog w).is k (.str (Str.ofString "flags") 327) with
        | false => rfl
        | true => exact absurd ((strKind prog w).inj _ _ _ q (strKind_is prog w _ 327)) hk
      rw [this]
      rfl
end Mine
end

/- J2 -/
set_option maxHeartbeats 0 in
theorem PySem.Challenge.cw_pk0007_01_holds : PySem.Challenge.rw_pk0007_01.Holds := by
  refine Mine.hd ?_
  k_fill
  intro w s₀ s₁ mg mb G Y fa o pm cd doc dV kV ho hd hcd hD hmg hg args vals as hpre hlay hrd hwl hlo
  have KX := kIn_of Y
  have X := (Ground.X G).1
  have V := (Ground.X G).2
  refine Ground.open G ?_
  intro T B D TE TW
  try (refine guard_noD D (by decide +kernel) ?_; clear D)
  wrow_args hpre hlay hrd hwl hlo
  all_goals (
    first | refine callC_kw (enter_call ?_) | refine enter_call ?_ | refine callC_kw (enter_callW ?_) | refine enter_callW ?_ | w_how
    w_top on
    try refine codeAny_mono ?_ (fun _ _ g => GoodW.toG g)
    skip)
  have he := Dflts.none hD rfl; subst he
  have he := Dflts.noKw hD; subst he
  rename_i xs _ _ _ _ _ _ _ sa items _ hL _ _ _ hI _ hlen _
  obtain ⟨os, hos, hcls, n, hdat⟩ := hL
  have hlen' : xs.length ≤ 1000 := by omega
  refine Mine.law_code (c := ⟨_, w, mg, mb, Mine.KH9 w ++ [(sa, os)]⟩) (pm := pm) (cd := cd) (doc := doc) (items := items.toArray) (xs := xs) ?_ ⟨T.g, T.b, Mine.in_add KX hos, T.nolimit⟩ (Mine.law_ok KX T.g T.builtins) ho (fd_plain hd) hcd rfl rfl rfl (fun _ => rfl) (fun _ => rfl)
    (fun h x => ⟨os, Mine.add_at KX hos x, hcls, n, hdat⟩) (by simpa using hI) hlen' (fun s' k => ?_)
  · exact ⟨rfl, by decide, by decide⟩
  · obtain ⟨h', t', rfl, kk⟩ := k
    refine ⟨.inl ⟨.bool true, .bool true, [], rfl, fun _ => rfl, .bool true, ?_, unshared_nil⟩, kk, rfl, hg⟩
    exact postW_of (by wrow_shape) (by wtm_val) (by first | done | rfl | simp | (str_meet; first | done | w_fin))
