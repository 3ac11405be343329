import PyProof.Rows.All
import Wide.All
import OpenK.AllK
import Wide.FinOn
import Lean
import PySem.Challenge.RW_qu0068_01
open PySem PySem.W PyProof.Rows
set_option Elab.async false
set_option linter.unusedVariables false

/-! Calc1 -/
section
namespace Mine
/-! several things at once (one step to take apart) -/
structure And6 (a1 a2 a3 a4 a5 a6 : Prop) : Prop where
  h1 : a1
  h2 : a2
  h3 : a3
  h4 : a4
  h5 : a5
  h6 : a6
structure And7 (a1 a2 a3 a4 a5 a6 a7 : Prop) : Prop where
  h1 : a1
  h2 : a2
  h3 : a3
  h4 : a4
  h5 : a5
  h6 : a6
  h7 : a7
structure And8 (a1 a2 a3 a4 a5 a6 a7 a8 : Prop) : Prop where
  h1 : a1
  h2 : a2
  h3 : a3
  h4 : a4
  h5 : a5
  h6 : a6
  h7 : a7
  h8 : a8
structure And9 (a1 a2 a3 a4 a5 a6 a7 a8 a9 : Prop) : Prop where
  h1 : a1
  h2 : a2
  h3 : a3
  h4 : a4
  h5 : a5
  h6 : a6
  h7 : a7
  h8 : a8
  h9 : a9
structure And11 (a1 a2 a3 a4 a5 a6 a7 a8 a9 a10 a11 : Prop) : Prop where
  h1 : a1
  h2 : a2
  h3 : a3
  h4 : a4
  h5 : a5
  h6 : a6
  h7 : a7
  h8 : a8
  h9 : a9
  h10 : a10
  h11 : a11
structure And12 (a1 a2 a3 a4 a5 a6 a7 a8 a9 a10 a11 a12 : Prop) : Prop where
  h1 : a1
  h2 : a2
  h3 : a3
  h4 : a4
  h5 : a5
  h6 : a6
  h7 : a7
  h8 : a8
  h9 : a9
  h10 : a10
  h11 : a11
  h12 : a12

/-! ### plain data and what a value stands for -/
structure Ws where
  raw : Str
  n : Int
  nt : Int
  cnt : List Int
  tr : Int
inductive D where
  | none
  | bool (b : Bool)
  | int (i : Int)
  | str (x : Str)
  | list (xs : List D)
  | tup (xs : List D)
  | ws (r : Ws)
  | sh (a dA : Addr) (raw : Str)

noncomputable abbrev Keep (h h' : Heap) : Prop := ∀ b o, h.get? b = some o → h'.get? b = some o
theorem Keep.refl (h : Heap) : Keep h h := fun _ _ e => e
theorem Keep.trans {a b c : Heap} (x : Keep a b) (y : Keep b c) : Keep a c := fun _ _ e => y _ _ (x _ _ e)

noncomputable def IntsV : List Int → List Value → Prop
  | [], [] => True
  | i :: is, v :: vs => (∃ t, v = .int i t) ∧ IntsV is vs
  | _, _ => False

/-- the class of the rows' leads in the text (its address) -/
noncomputable def wsC : Addr := 83

/-- the names that an object of the class has -/
noncomputable def wsHas (y : Str) : Bool := [Str.ofString "raw", Str.ofString "n", Str.ofString "nt", Str.ofString "norm", Str.ofString "is_simple"].contains y
structure WsAt (ok : Addr → Prop) (h : Heap) (r : Ws) (a : Addr) : Prop where
  at_ : ∃ dA m o, And11 (ok a) (ok dA) (h.get? a = some o) ((o.cls = .ref wsC ∧ (∀ c, o.data ≠ .cls c) ∧ o.dict = some dA ∧ dA ≠ a)) (h.Ns1 dA m) ((∀ y, wsHas y = false → m y = Option.none)) ((∃ t, m (Str.ofString "raw") = some (.str r.raw t))) ((∃ t, m (Str.ofString "n") = some (.int r.n t))) ((∃ t, m (Str.ofString "nt") = some (.int r.nt t))) ((∃ b, m (Str.ofString "is_simple") = some (.bool b) ∧ b = decide (r.cnt.length ≤ 1))) (∃ p q its t, And6 (ok p) (ok q) (m (Str.ofString "norm") = some (.ref p)) (h.IsTuple p #[.ref q, .int r.tr t]) (h.IsTuple q its) (IntsV r.cnt its.toList))

/-- an object of the class of which the first name alone is stored -/
noncomputable def ShAt (h : Heap) (a dA : Addr) (raw : Str) : Prop :=
  ∃ o m, h.get? a = some o ∧ (o.cls = .ref wsC ∧ (∀ c, o.data ≠ .cls c) ∧ o.dict = some dA ∧ dA ≠ a) ∧ h.Ns1 dA m ∧ (∀ y, y ≠ Str.ofString "raw" → m y = Option.none) ∧ ∃ t, m (Str.ofString "raw") = some (.str raw t)
mutual
noncomputable def Den (ok : Addr → Prop) (h : Heap) : D → Value → Prop
  | .none, v => v = .none
  | .bool b, v => v = .bool b
  | .int i, v => ∃ t, v = .int i t
  | .str x, v => ∃ t, v = .str x t
  | .list xs, v => ∃ a items, v = .ref a ∧ ok a ∧ h.IsList a items ∧ DenL ok h xs items.toList
  | .tup xs, v => ∃ a items, v = .ref a ∧ ok a ∧ h.IsTuple a items ∧ DenL ok h xs items.toList
  | .ws r, v => ∃ a, v = .ref a ∧ WsAt ok h r a
  | .sh a dA raw, v => v = .ref a ∧ ok a ∧ ok dA ∧ ShAt h a dA raw
noncomputable def DenL (ok : Addr → Prop) (h : Heap) : List D → List Value → Prop
  | [], vs => vs = []
  | d :: ds, vs => ∃ v vs', vs = v :: vs' ∧ Den ok h d v ∧ DenL ok h ds vs'
end

/-- objects at addresses that are ok stay -/
noncomputable abbrev KeepOn (ok : Addr → Prop) (h h' : Heap) : Prop := ∀ b o, ok b → h.get? b = some o → h'.get? b = some o
theorem Ns.onto {h h' : Heap} {a : Addr} {m : Str → Option Value} (x : h.Ns a m) (k : ∀ o, h.get? a = some o → h'.get? a = some o) : h'.Ns a m :=
  let ⟨o, es, ep, e, r⟩ := x; ⟨o, es, ep, k _ e, r⟩
theorem WsAt.move {ok : Addr → Prop} {h h' : Heap} {r : Ws} {a : Addr} (k : KeepOn ok h h') (x : WsAt ok h r a) : WsAt ok h' r a := by
  obtain ⟨dA, m, o, o1, o2, h1, h2, h4, h4', h5, h6, h7, h8, p, q, its, t, o3, o4, h9, h10, h11, h12⟩ := x.at_
  exact ⟨dA, m, o, o1, o2, k _ _ o1 h1, h2, h4.at fun o e => k _ _ o2 e, h4', h5, h6, h7, h8, p, q, its, t, o3, o4, h9, h10.at fun o e => k _ _ o3 e, h11.at fun o e => k _ _ o4 e, h12⟩

mutual
theorem Den.move {ok : Addr → Prop} {h h' : Heap} (k : KeepOn ok h h') : ∀ {d : D} {v : Value}, Den ok h d v → Den ok h' d v
  | .none, _, x => x
  | .bool _, _, x => x
  | .int _, _, x => x
  | .str _, _, x => x
  | .list xs, _, x => by
    simp only [Den] at x ⊢
    obtain ⟨a, items, e, o, l, r⟩ := x
    exact ⟨a, items, e, o, let ⟨ob, ho, hr⟩ := l; ⟨ob, k _ _ o ho, hr⟩, DenL.move k r⟩
  | .tup xs, _, x => by
    simp only [Den] at x ⊢
    obtain ⟨a, items, e, o, l, r⟩ := x
    exact ⟨a, items, e, o, l.at fun ob e => k _ _ o e, DenL.move k r⟩
  | .ws _, _, x => by
    simp only [Den] at x ⊢
    obtain ⟨a, e, l⟩ := x
    exact ⟨a, e, l.move k⟩
  | .sh _ _ _, _, x => by
    simp only [Den] at x ⊢
    obtain ⟨e, o1, o2, o, m, h1, h2, h3, h4, h5⟩ := x
    exact ⟨e, o1, o2, o, m, k _ _ o1 h1, h2, h3.at fun o e => k _ _ o2 e, h4, h5⟩
theorem DenL.move {ok : Addr → Prop} {h h' : Heap} (k : KeepOn ok h h') : ∀ {ds : List D} {vs : List Value}, DenL ok h ds vs → DenL ok h' ds vs
  | [], _, x => x
  | d :: ds, _, x => by
    simp only [DenL] at x ⊢
    obtain ⟨v, vs', e, y, z⟩ := x
    exact ⟨v, vs', e, Den.move k y, DenL.move k z⟩
end
theorem Den.keeps {ok : Addr → Prop} {h h' : Heap} (k : Keep h h') {d : D} {v : Value} (x : Den ok h d v) : Den ok h' d v := x.move fun b o _ e => k b o e
theorem DenL.keeps {ok : Addr → Prop} {h h' : Heap} (k : Keep h h') {d : List D} {v : List Value} (x : DenL ok h d v) : DenL ok h' d v := x.move fun b o _ e => k b o e
theorem WsAt.okMono {ok ok' : Addr → Prop} {h : Heap} {r : Ws} {a : Addr} (k : ∀ a, ok a → (h.get? a).isSome = true → ok' a) (x : WsAt ok h r a) : WsAt ok' h r a := by
  obtain ⟨dA, m, o, o1, o2, h1, h2, h4, h4', h5, h6, h7, h8, p, q, its, t, o3, o4, h9, h10, h11, h12⟩ := x.at_
  exact ⟨dA, m, o, k _ o1 (by rw [h1]; rfl), k _ o2 (by obtain ⟨o, _, _, e, _⟩ := h4; rw [e]; rfl), h1, h2, h4, h4', h5, h6, h7, h8, p, q, its, t, k _ o3 (by obtain ⟨o, e, _⟩ := h10; rw [e]; rfl), k _ o4 (by obtain ⟨o, e, _⟩ := h11; rw [e]; rfl), h9, h10, h11, h12⟩
mutual
theorem Den.okMono {ok ok' : Addr → Prop} {h : Heap} (k : ∀ a, ok a → (h.get? a).isSome = true → ok' a) : ∀ {d : D} {v : Value}, Den ok h d v → Den ok' h d v
  | .none, _, x => x
  | .bool _, _, x => x
  | .int _, _, x => x
  | .str _, _, x => x
  | .list xs, _, x => by
    simp only [Den] at x ⊢
    obtain ⟨a, items, e, o, l, r⟩ := x
    exact ⟨a, items, e, k a o (let ⟨_, ho, _⟩ := l; by rw [ho]; rfl), l, DenL.okMono k r⟩
  | .tup xs, _, x => by
    simp only [Den] at x ⊢
    obtain ⟨a, items, e, o, l, r⟩ := x
    exact ⟨a, items, e, k a o (let ⟨_, ho, _⟩ := l; by rw [ho]; rfl), l, DenL.okMono k r⟩
  | .ws _, _, x => by
    simp only [Den] at x ⊢
    obtain ⟨a, e, l⟩ := x
    exact ⟨a, e, l.okMono k⟩
  | .sh _ _ _, _, x => by
    simp only [Den] at x ⊢
    obtain ⟨e, o1, o2, o, m, h1, h2, h3, h4, h5⟩ := x
    exact ⟨e, k _ o1 (by rw [h1]; rfl), k _ o2 (by obtain ⟨o, _, _, e, _⟩ := h3; rw [e]; rfl), o, m, h1, h2, h3, h4, h5⟩
theorem DenL.okMono {ok ok' : Addr → Prop} {h : Heap} (k : ∀ a, ok a → (h.get? a).isSome = true → ok' a) : ∀ {ds : List D} {vs : List Value}, DenL ok h ds vs → DenL ok' h ds vs
  | [], _, x => x
  | d :: ds, _, x => by
    simp only [DenL] at x ⊢
    obtain ⟨v, vs', e, y, z⟩ := x
    exact ⟨v, vs', e, Den.okMono k y, DenL.okMono k z⟩
end

theorem DenL.length {ok : Addr → Prop} {h : Heap} : ∀ {ds : List D} {vs : List Value}, DenL ok h ds vs → ds.length = vs.length
  | [], _, x => by simp only [DenL] at x; subst x; rfl
  | d :: ds, _, x => by
    simp only [DenL] at x
    obtain ⟨v, vs', e, _, z⟩ := x
    subst e
    simp [DenL.length z]
theorem DenL.get {ok : Addr → Prop} {h : Heap} : ∀ {ds : List D} {vs : List Value} {i : Nat} {d : D}, DenL ok h ds vs → ds[i]? = some d → ∃ v, vs[i]? = some v ∧ Den ok h d v
  | [], _, _, _, x, e => by simp at e
  | d :: ds, _, i, d', x, e => by
    simp only [DenL] at x
    obtain ⟨v, vs', rfl, y, z⟩ := x
    cases i with
    | zero => simp at e; subst e; exact ⟨v, by simp, y⟩
    | succ i => simp at e ⊢; exact DenL.get z e
theorem DenL.append {ok : Addr → Prop} {h : Heap} : ∀ {ds es : List D} {vs us : List Value}, DenL ok h ds vs → DenL ok h es us → DenL ok h (ds ++ es) (vs ++ us)
  | [], _, _, _, x, y => by simp only [DenL] at x; subst x; simpa using y
  | d :: ds, _, _, _, x, y => by
    simp only [DenL] at x
    obtain ⟨v, vs', rfl, a, b⟩ := x
    simp only [List.cons_append, DenL]
    exact ⟨v, _, rfl, a, DenL.append b y⟩
theorem DenL.snoc {ok : Addr → Prop} {h : Heap} {ds : List D} {vs : List Value} {d : D} {v : Value} (x : DenL ok h ds vs) (y : Den ok h d v) : DenL ok h (ds ++ [d]) (vs ++ [v]) :=
  x.append (by simp only [DenL]; exact ⟨v, [], rfl, y, rfl⟩)

/-- data that no heap is asked for -/
noncomputable def Flat : D → Prop
  | .none | .bool _ | .int _ | .str _ => True
  | _ => False
theorem Den.flat {ok ok' : Addr → Prop} {h h' : Heap} {d : D} {v : Value} (f : Flat d) (x : Den ok h d v) : Den ok' h' d v := by
  cases d <;> first | exact x | exact f.elim
theorem DenL.flat {ok ok' : Addr → Prop} {h h' : Heap} : ∀ {ds : List D} {vs : List Value}, (∀ d ∈ ds, Flat d) → DenL ok h ds vs → DenL ok' h' ds vs
  | [], _, _, x => x
  | d :: ds, _, f, x => by
    simp only [DenL] at x ⊢
    obtain ⟨v, vs', e, y, z⟩ := x
    exact ⟨v, vs', e, y.flat (f d List.mem_cons_self), DenL.flat (fun d hd => f d (List.mem_cons_of_mem _ hd)) z⟩

end Mine
end

/-! Calc2 -/
section
namespace Mine

structure Cx where
  prog : Program
  w : World
  K : Frag
  G : Str → Option Value
  B : Str → Option Value
  tops : ∀ h, K.In h → h.Ns mainGlobals G ∧ h.Ns builtinsNs B ∧ h.NoLimit
noncomputable abbrev Cx.M (C : Cx) : Model := model C.prog C.w
noncomputable abbrev nox : Value → Shared → Prop := fun _ _ => False

structure EnvOk (N : List (Str × NameKind)) (env : Env) : Prop where
  names : env.scope.names = N
  kind : env.scope.kind = .function
  globals : env.globals = mainGlobals
  builtins : env.builtins = builtinsNs
  cells : ∀ n, N.lookup n = some .cell ∨ N.lookup n = some .free → (env.cells.lookup n).isSome = true

structure Rm (k : Nat) (A : Around) : Prop where
  hand : A.handled = none
  depth : A.depth + 5 * k ≤ 400
  units : A.units + 20 * k ≤ 500

noncomputable def Ks (s s' : Shared) : Prop := PySem.Keeps s s'
theorem Ks.keep {s s' : Shared} (x : Ks s s') : Keep s.heap s'.heap := by
  obtain ⟨h', tk, rfl, k⟩ := x; exact k
theorem Ks.refl (s : Shared) : Ks s s := ⟨s.heap, s.toks, rfl, fun _ _ e => e⟩
theorem Ks.tok (s : Shared) (t : Nat) : Ks s { s with toks := t } := ⟨s.heap, t, rfl, fun _ _ e => e⟩
theorem Ks.trans {a b c : Shared} (x : Ks a b) (y : Ks b c) : Ks a c := by
  obtain ⟨h', tk, rfl, k⟩ := x; obtain ⟨h'', tk', rfl, k'⟩ := y
  exact ⟨h'', tk', rfl, fun b o e => k' b o (k b o e)⟩
theorem Ks.push (s : Shared) (o : Obj) : Ks s { s with heap := s.heap.push o } := ⟨_, s.toks, rfl, fun _ _ e => Heap.get?_push_of_some _ e⟩

/-- the variable x of the frame holds v -/
noncomputable def Holds (env : Env) (h : Heap) (x : Str) (v : Value) : Prop :=
  (env.kindOf x = some .local ∧ ∃ m, h.Ns env.locals m ∧ m x = some v) ∨
  ((env.kindOf x = some .cell ∨ env.kindOf x = some .free) ∧ ∃ c, env.cells.lookup x = some c ∧ h.IsCell c (some v))
theorem Holds.keeps {env : Env} {h h' : Heap} {x : Str} {v : Value} (k : Keep h h') (y : Holds env h x v) : Holds env h' x v := by
  rcases y with ⟨e, m, n, hm⟩ | ⟨e, c, hc, hi⟩
  · exact .inl ⟨e, m, n.keeps k, hm⟩
  · exact .inr ⟨e, c, hc, hi.keeps k⟩

/-- what a frame's names stand for: data that stays, and lists that may be turned -/
structure SimR (env : Env) (ok : Addr → Prop) (ρ : List (Str × D)) (μ : List (Str × List D)) (h : Heap) : Prop where
  imm : ∀ x d, ρ.lookup x = some d → ∃ v, Holds env h x v ∧ Den ok h d v
  tur : ∀ x xs, μ.lookup x = some xs → ∃ a items, Holds env h x (.ref a) ∧ h.IsList a items ∧ DenL (fun _ => True) h xs items.toList
theorem SimR.keeps {env : Env} {ok : Addr → Prop} {ρ : List (Str × D)} {μ : List (Str × List D)} {h h' : Heap} (k : Keep h h') (x : SimR env ok ρ μ h) : SimR env ok ρ μ h' where
  imm := fun y d e => let ⟨v, a, b⟩ := x.imm y d e; ⟨v, a.keeps k, b.keeps k⟩
  tur := fun y xs e => let ⟨a, items, p, ⟨o, ho, q⟩, r⟩ := x.tur y xs e; ⟨a, items, p.keeps k, ⟨o, k _ _ ho, q⟩, r.keeps k⟩

structure Pre (C : Cx) (N : List (Str × NameKind)) (ρ : List (Str × D)) (μ : List (Str × List D)) (k : Nat) (env : Env) (ok : Addr → Prop) (A : Around) (s : Shared) : Prop where
  eok : EnvOk N env
  rm : Rm k A
  base : C.K.In s.heap
  sim : SimR env ok ρ μ s.heap
  new : ∀ a, s.heap.get? a = none → ok a
variable {C : Cx} {N : List (Str × NameKind)} {ρ : List (Str × D)} {μ : List (Str × List D)} {k : Nat}
theorem new_keeps {ok : Addr → Prop} {h h' : Heap} (kp : Keep h h') (x : ∀ a, h.get? a = none → ok a) : ∀ a, h'.get? a = none → ok a := fun a ha => x a (by
  cases e : h.get? a with
  | none => rfl
  | some o => rw [kp a o e] at ha; cases ha)
theorem Pre.keeps {env : Env} {ok : Addr → Prop} {A : Around} {s s' : Shared} (x : Pre C N ρ μ k env ok A s) (y : Ks s s') : Pre C N ρ μ k env ok A s' :=
  ⟨x.eok, x.rm, x.base.keeps y.keep, x.sim.keeps y.keep, new_keeps y.keep x.new⟩

/-- e comes out as d -/
noncomputable def Ex (C : Cx) (N : List (Str × NameKind)) (ρ : List (Str × D)) (μ : List (Str × List D)) (k : Nat) (e : Expr) (d : D) : Prop :=
  ∀ env ok A s, Pre C N ρ μ k env ok A s → wpAny C.M A (eval e env) (fun v s' => Ks s s' ∧ Den ok s'.heap d v) nox s
/-- e as a test comes out as b -/
noncomputable def Tx (C : Cx) (N : List (Str × NameKind)) (ρ : List (Str × D)) (μ : List (Str × List D)) (k : Nat) (e : Expr) (b : Bool) : Prop :=
  ∀ env ok A s, Pre C N ρ μ k env ok A s → wpAny C.M A (isTrue e env (eval e env)) (fun r s' => Ks s s' ∧ r = b) nox s
/-- e comes out as the very value v -/
noncomputable def Vx (C : Cx) (N : List (Str × NameKind)) (ρ : List (Str × D)) (μ : List (Str × List D)) (k : Nat) (e : Expr) (v : Value) : Prop :=
  ∀ env ok A s, Pre C N ρ μ k env ok A s → wpAny C.M A (eval e env) (fun v' s' => Ks s s' ∧ v' = v) nox s
noncomputable def ExL (C : Cx) (N : List (Str × NameKind)) (ρ : List (Str × D)) (μ : List (Str × List D)) (k : Nat) (es : List Expr) (ds : List D) : Prop :=
  ∀ pos env ok A s, Pre C N ρ μ k env ok A s → wpAny C.M A (spliced (backTo pos (starEach es env))) (fun vs s' => Ks s s' ∧ DenL ok s'.heap ds vs) nox s

/-! names, constants -/
theorem load_holds {env : Env} {h : Heap} {x : Str} {v : Value} {A : Around} {s : Shared} {Q : Value → Shared → Prop} (hk : env.scope.kind = .function) (y : Holds env s.heap x v) (hn : (x == ("__classdict__" : Str)) = false) (q : Q v s) :
    wpAny C.M A (loadName env x) Q nox s := by
  rcases y with ⟨e, m, n, hm⟩ | ⟨e | e, c, hc, hi⟩
  · exact wpAny_loadName_local hk e n hm q
  · exact wpAny_loadName_cell hk e hc hi q
  · exact wpAny_loadName_free hk e hc hi q hn
theorem Ex.name {x : Str} {pos : Pos} {d : D} (h : ρ.lookup x = some d) (hd : (x == ("__debug__" : Str)) = false := by decide) (hn : (x == ("__classdict__" : Str)) = false := by decide) : Ex C N ρ μ k (.Name x pos) d := by
  intro env ok A s P
  obtain ⟨v, y, z⟩ := P.sim.imm x d h
  exact wpAny_Name (load_holds (h := s.heap) P.eok.kind y hn ⟨Ks.refl s, z⟩) hd
theorem Ex.int {i : Int} {kk : Nat} {pos : Pos} : Ex C N ρ μ k (.Constant (.int i) kk pos) (.int i) := fun env ok A s P =>
  wpAny_Constant_int ⟨Ks.tok s _, by simp only [Den]; exact ⟨_, rfl⟩⟩
theorem Ex.str {x : Str} {kk : Nat} {pos : Pos} : Ex C N ρ μ k (.Constant (.str x) kk pos) (.str x) := fun env ok A s P =>
  wpAny_Constant_str ⟨Ks.tok s _, by simp only [Den]; exact ⟨_, rfl⟩⟩
theorem Ex.none {kk : Nat} {pos : Pos} : Ex C N ρ μ k (.Constant .none kk pos) .none := fun env ok A s P =>
  wpAny_Constant_none ⟨Ks.refl s, by simp only [Den]⟩
theorem Ex.bool {b : Bool} {kk : Nat} {pos : Pos} : Ex C N ρ μ k (.Constant (.bool b) kk pos) (.bool b) := fun env ok A s P =>
  wpAny_Constant_bool ⟨Ks.refl s, by simp only [Den]⟩

/-! operators -/
noncomputable def Bin (C : Cx) (k : Nat) (op : Operator) (d₁ d₂ d : D) : Prop :=
  ∀ ok A s v₁ v₂, Rm k A → C.K.In s.heap → (∀ a, s.heap.get? a = none → ok a) → Den ok s.heap d₁ v₁ → Den ok s.heap d₂ v₂ → wpAny C.M A (binaryOp op v₁ v₂) (fun v s' => Ks s s' ∧ Den ok s'.heap d v) nox s
theorem Ex.bin {l r : Expr} {op : Operator} {pos : Pos} {d₁ d₂ d : D} (h₁ : Ex C N ρ μ k l d₁) (h₂ : Ex C N ρ μ k r d₂) (h : Bin C k op d₁ d₂ d) : Ex C N ρ μ k (.BinOp l op r pos) d := by
  intro env ok A s P
  refine wpAny_BinOp (wpAny_mono (h₁ env ok A s P) (fun v s₁ x => ?_) fun _ _ e => e)
  refine wpAny_mono (h₂ env ok A s₁ (P.keeps x.1)) (fun u s₂ y => ?_) fun _ _ e => e
  have P₂ := (P.keeps x.1).keeps y.1
  refine wpAny_mono (h ok A s₂ v u P₂.rm P₂.base P₂.new (x.2.keeps y.1.keep) y.2) (fun v' s₃ z => ⟨(x.1.trans y.1).trans z.1, z.2⟩) fun _ _ e => e
section
variable {i j : Int}
theorem Bin.add : Bin C k .Add (.int i) (.int j) (.int (i + j)) := by
  rintro ok A s _ _ hr hb hn ⟨t, rfl⟩ ⟨u, rfl⟩; exact PyProof.Rows.add_int ⟨Ks.tok s _, by simp only [Den]; exact ⟨_, rfl⟩⟩
theorem Bin.sub : Bin C k .Sub (.int i) (.int j) (.int (i - j)) := by
  rintro ok A s _ _ hr hb hn ⟨t, rfl⟩ ⟨u, rfl⟩; exact PyProof.Rows.sub_int ⟨Ks.tok s _, by simp only [Den]; exact ⟨_, rfl⟩⟩
theorem Bin.mul (hm : IntMulOk i j) : Bin C k .Mult (.int i) (.int j) (.int (i * j)) := by
  rintro ok A s _ _ hr hb hn ⟨t, rfl⟩ ⟨u, rfl⟩; exact PyProof.Rows.mul_int ⟨Ks.tok s _, by simp only [Den]; exact ⟨_, rfl⟩⟩ hm
theorem Bin.mod (hj : j ≠ 0) : Bin C k .Mod (.int i) (.int j) (.int (i.fmod j)) := by
  rintro ok A s _ _ hr hb hn ⟨t, rfl⟩ ⟨u, rfl⟩; exact PyProof.Rows.mod_int hj ⟨Ks.tok s _, by simp only [Den]; exact ⟨_, rfl⟩⟩
theorem Bin.fdiv (hj : j ≠ 0) (hp : Builtin.divisionGoesByPylong i j = false) : Bin C k .FloorDiv (.int i) (.int j) (.int (i.fdiv j)) := by
  rintro ok A s _ _ hr hb hn ⟨t, rfl⟩ ⟨u, rfl⟩; exact PyProof.Rows.floordiv_int hj ⟨Ks.tok s _, by simp only [Den]; exact ⟨_, rfl⟩⟩ (.inl hp)
end
theorem Bin.addStr {x y : Str} (hsz : x.length + y.length ≤ sizeLine) : Bin C k .Add (.str x) (.str y) (.str (x ++ y)) := by
  rintro ok A s _ _ hr hb hn ⟨t, rfl⟩ ⟨u, rfl⟩; exact PyProof.Rows.add_str (fun t' tk => ⟨Ks.tok s _, by simp only [Den]; exact ⟨_, rfl⟩⟩) hsz

/-! comparisons and tests -/
noncomputable def Cmp (C : Cx) (k : Nat) (op : CmpOp) (d₁ d₂ : D) (b : Bool) : Prop :=
  ∀ ok A s v₁ v₂, Rm k A → C.K.In s.heap → Den ok s.heap d₁ v₁ → Den ok s.heap d₂ v₂ → wpAny C.M A (compareOp op v₁ v₂) (fun v s' => Ks s s' ∧ v = .bool b) nox s
section
variable {i j : Int}
theorem Cmp.eq : Cmp C k .Eq (.int i) (.int j) (i == j) := by rintro ok A s _ _ hr hb ⟨t, rfl⟩ ⟨u, rfl⟩; exact PyProof.Rows.eq_int ⟨Ks.refl s, rfl⟩
theorem Cmp.ne : Cmp C k .NotEq (.int i) (.int j) (i != j) := by rintro ok A s _ _ hr hb ⟨t, rfl⟩ ⟨u, rfl⟩; exact PyProof.Rows.ne_int ⟨Ks.refl s, rfl⟩
theorem Cmp.lt : Cmp C k .Lt (.int i) (.int j) (decide (i < j)) := by rintro ok A s _ _ hr hb ⟨t, rfl⟩ ⟨u, rfl⟩; exact PyProof.Rows.lt_int ⟨Ks.refl s, rfl⟩
theorem Cmp.le : Cmp C k .LtE (.int i) (.int j) (decide (i ≤ j)) := by rintro ok A s _ _ hr hb ⟨t, rfl⟩ ⟨u, rfl⟩; exact PyProof.Rows.le_int ⟨Ks.refl s, rfl⟩
theorem Cmp.gt : Cmp C k .Gt (.int i) (.int j) (decide (j < i)) := by rintro ok A s _ _ hr hb ⟨t, rfl⟩ ⟨u, rfl⟩; exact PyProof.Rows.gt_int ⟨Ks.refl s, rfl⟩
theorem Cmp.ge : Cmp C k .GtE (.int i) (.int j) (decide (j ≤ i)) := by rintro ok A s _ _ hr hb ⟨t, rfl⟩ ⟨u, rfl⟩; exact PyProof.Rows.ge_int ⟨Ks.refl s, rfl⟩
end
theorem Cmp.eqStr {x y : Str} : Cmp C k .Eq (.str x) (.str y) (x == y) := by rintro ok A s _ _ hr hb ⟨t, rfl⟩ ⟨u, rfl⟩; exact PyProof.Rows.eq_str ⟨Ks.refl s, rfl⟩
theorem Cmp.isNotNone {d : D} : Cmp C k .IsNot d .none (match d with | .none => false | _ => true) := by
  rintro ok A s v _ hr hb hv rfl
  refine isNot_none ⟨Ks.refl s, ?_⟩
  cases d <;> simp only [Den] at hv <;> first | (subst hv; rfl) | (obtain ⟨rfl, _⟩ := hv; rfl) | (obtain ⟨t, rfl⟩ := hv; rfl) | (obtain ⟨a, rfl, _⟩ := hv; rfl) | (obtain ⟨a, b, rfl, _⟩ := hv; rfl)

theorem Ex.cmp {l r : Expr} {op : CmpOp} {pos : Pos} {d₁ d₂ : D} {b : Bool} (h₁ : Ex C N ρ μ k l d₁) (h₂ : Ex C N ρ μ k r d₂) (h : Cmp C k op d₁ d₂ b) (hm : behindInMarks op r = false := by with_unfolding_all rfl) : Ex C N ρ μ k (.Compare l [op] [r] pos) (.bool b) := by
  intro env ok A s P
  refine wpAny_Compare1 (wpAny_mono (h₁ env ok A s P) (fun v s₁ x => ?_) fun _ _ e => e) hm
  refine wpAny_mono (h₂ env ok A s₁ (P.keeps x.1)) (fun u s₂ y => ?_) fun _ _ e => e
  have P₂ := (P.keeps x.1).keeps y.1
  refine wpAny_mono (h ok A s₂ v u P₂.rm P₂.base (x.2.keeps y.1.keep) y.2) (fun v' s₃ z => ⟨(x.1.trans y.1).trans z.1, ?_⟩) fun _ _ e => e
  rw [z.2]; simp only [Den]
theorem Tx.cmp {l r : Expr} {op : CmpOp} {pos : Pos} {d₁ d₂ : D} {b : Bool} (h₁ : Ex C N ρ μ k l d₁) (h₂ : Ex C N ρ μ k r d₂) (h : Cmp C k op d₁ d₂ b) (hm : behindInMarks op r = false := by with_unfolding_all rfl) : Tx C N ρ μ k (.Compare l [op] [r] pos) b := by
  intro env ok A s P
  refine wpAny_isTrue_Compare1 (wpAny_mono (h₁ env ok A s P) (fun v s₁ x => ?_) fun _ _ e => e) hm
  refine wpAny_mono (h₂ env ok A s₁ (P.keeps x.1)) (fun u s₂ y => ?_) fun _ _ e => e
  have P₂ := (P.keeps x.1).keeps y.1
  refine wpAny_mono (h ok A s₂ v u P₂.rm P₂.base (x.2.keeps y.1.keep) y.2) (fun v' s₃ z => ?_) fun _ _ e => e
  rw [z.2]
  exact wpAny_truthy_bool ⟨(x.1.trans y.1).trans z.1, rfl⟩
theorem Tx.not {x : Expr} {pos : Pos} {b : Bool} (h : Tx C N ρ μ k x b) : Tx C N ρ μ k (.UnaryOp .Not x pos) (!b) := fun env ok A s P =>
  wpAny_isTrue_Not (wpAny_mono (h env ok A s P) (fun r s' x => ⟨x.1, by rw [x.2]⟩) fun _ _ e => e)
/-- a chain of ands, as tests -/
inductive AllTx (C : Cx) (N : List (Str × NameKind)) (ρ : List (Str × D)) (μ : List (Str × List D)) (k : Nat) : List Expr → Bool → Prop
  | nil : AllTx C N ρ μ k [] true
  | cons {x : Expr} {rest : List Expr} {b c : Bool} : Tx C N ρ μ k x b → (b = true → AllTx C N ρ μ k rest c) → AllTx C N ρ μ k (x :: rest) (b && c)
theorem AllTx.all {es : List Expr} {b : Bool} (h : AllTx C N ρ μ k es b) : ∀ env ok A s, Pre C N ρ μ k env ok A s → wpAny C.M A (allTrue .And es env) (fun r s' => Ks s s' ∧ r = b) nox s := by
  induction h with
  | nil => exact fun env ok A s P => wpAny_allTrue_And_nil ⟨Ks.refl s, rfl⟩
  | @cons x rest b c h₁ h₂ ih =>
    intro env ok A s P
    refine wpAny_allTrue_And_cons (wpAny_mono (h₁ env ok A s P) (fun r s₁ y => ?_) fun _ _ e => e)
    obtain ⟨y, rfl⟩ := y
    cases r with
    | false => exact ⟨y, rfl⟩
    | true => exact wpAny_mono (ih rfl env ok A s₁ (P.keeps y)) (fun r s₂ z => ⟨y.trans z.1, by rw [z.2]; rfl⟩) fun _ _ e => e
theorem Tx.and {es : List Expr} {pos : Pos} {b : Bool} (h : AllTx C N ρ μ k es b) : Tx C N ρ μ k (.BoolOp .And es pos) b := fun env ok A s P => wpAny_isTrue_BoolOp (h.all env ok A s P)
inductive AnyTx (C : Cx) (N : List (Str × NameKind)) (ρ : List (Str × D)) (μ : List (Str × List D)) (k : Nat) : List Expr → Bool → Prop
  | nil : AnyTx C N ρ μ k [] false
  | cons {x : Expr} {rest : List Expr} {b c : Bool} : Tx C N ρ μ k x b → (b = false → AnyTx C N ρ μ k rest c) → AnyTx C N ρ μ k (x :: rest) (b || c)
theorem AnyTx.all {es : List Expr} {b : Bool} (h : AnyTx C N ρ μ k es b) : ∀ env ok A s, Pre C N ρ μ k env ok A s → wpAny C.M A (allTrue .Or es env) (fun r s' => Ks s s' ∧ r = b) nox s := by
  induction h with
  | nil => exact fun env ok A s P => wpAny_allTrue_Or_nil ⟨Ks.refl s, rfl⟩
  | @cons x rest b c h₁ h₂ ih =>
    intro env ok A s P
    refine wpAny_allTrue_Or_cons (wpAny_mono (h₁ env ok A s P) (fun r s₁ y => ?_) fun _ _ e => e)
    obtain ⟨y, rfl⟩ := y
    cases r with
    | true => exact ⟨y, rfl⟩
    | false => exact wpAny_mono (ih rfl env ok A s₁ (P.keeps y)) (fun r s₂ z => ⟨y.trans z.1, by rw [z.2]; rfl⟩) fun _ _ e => e
theorem Tx.or {es : List Expr} {pos : Pos} {b : Bool} (h : AnyTx C N ρ μ k es b) : Tx C N ρ μ k (.BoolOp .Or es pos) b := fun env ok A s P => wpAny_isTrue_BoolOp (h.all env ok A s P)

theorem Ex.ifExp {t b o : Expr} {pos : Pos} {c : Bool} {d : D} (h : Tx C N ρ μ k t c) (h₁ : c = true → Ex C N ρ μ k b d) (h₂ : c = false → Ex C N ρ μ k o d) : Ex C N ρ μ k (.IfExp t b o pos) d := by
  intro env ok A s P
  refine wpAny_IfExp (wpAny_mono (h env ok A s P) (fun r s₁ x => ?_) fun _ _ e => e)
  obtain ⟨x, rfl⟩ := x
  cases r with
  | true => exact wpAny_mono (h₁ rfl env ok A s₁ (P.keeps x)) (fun v s₂ y => ⟨x.trans y.1, y.2⟩) fun _ _ e => e
  | false => exact wpAny_mono (h₂ rfl env ok A s₁ (P.keeps x)) (fun v s₂ y => ⟨x.trans y.1, y.2⟩) fun _ _ e => e
theorem Ex.neg {x : Expr} {pos : Pos} {i : Int} (h : Ex C N ρ μ k x (.int i)) : Ex C N ρ μ k (.UnaryOp .USub x pos) (.int (-i)) := by
  intro env ok A s P
  refine wpAny_UnaryOp (wpAny_mono (h env ok A s P) (fun v s₁ x => ?_) fun _ _ e => e)
  obtain ⟨x, t, rfl⟩ := x
  exact PyProof.Rows.neg_int ⟨x.trans (Ks.tok _ _), by simp only [Den]; exact ⟨_, rfl⟩⟩

/-! displays -/
theorem ExL.nil : ExL C N ρ μ k [] [] := fun pos env ok A s P => wpAny_items_nil ⟨Ks.refl s, by simp only [DenL]⟩
theorem ExL.cons {e : Expr} {es : List Expr} {d : D} {ds : List D} (h : Ex C N ρ μ k e d) (hs : ExL C N ρ μ k es ds) (he : ∀ env, starEach (e :: es) env = (false, eval e env) :: starEach es env := by intro _; rfl) : ExL C N ρ μ k (e :: es) (d :: ds) := by
  intro pos env ok A s P
  refine wpAny_items_cons (wpAny_mono (h env ok A s P) (fun v s₁ x => ?_) fun _ _ e => e) (he env)
  refine wpAny_mono (hs pos env ok A s₁ (P.keeps x.1)) (fun vs s₂ y => ⟨x.1.trans y.1, ?_⟩) fun _ _ e => e
  simp only [DenL]; exact ⟨v, vs, rfl, x.2.keeps y.1.keep, y.2⟩
theorem get_size (h : Heap) : h.get? h.objs.size = none := by
  cases e : h.get? h.objs.size with
  | none => rfl
  | some o => exact absurd (Heap.lt_size e) (Nat.lt_irrefl _)
theorem den_newList {ok : Addr → Prop} {s : Shared} {ds : List D} {vs : List Value} (hn : ∀ a, s.heap.get? a = none → ok a) (x : DenL ok s.heap ds vs) :
    Den ok (s.heap.push { cls := .type "list", data := .seq vs.toArray }) (.list ds) (.ref s.heap.objs.size) := by
  simp only [Den]
  exact ⟨_, vs.toArray, rfl, hn _ (get_size _), ⟨_, Heap.get?_push_size _ rfl, rfl, _, rfl⟩, x.keeps fun _ _ e => Heap.get?_push_of_some _ e⟩
theorem Ex.list {es : List Expr} {pos : Pos} {ds : List D} (h : ExL C N ρ μ k es ds) (hsz : ds.length ≤ sizeLine := by decide) : Ex C N ρ μ k (.List es pos) (.list ds) := by
  intro env ok A s P
  refine wpAny_List (wpAny_mono (h pos env ok A s P) (fun vs s₁ x => ⟨by rw [← x.2.length]; exact hsz, x.1.trans (Ks.push _ _), ?_⟩) fun _ _ e => e)
  exact den_newList (P.keeps x.1).new x.2
theorem Ex.tuple {es : List Expr} {kk : Nat} {pos : Pos} {ds : List D} (h : ExL C N ρ μ k es ds) (hsz : ds.length ≤ sizeLine := by decide) : Ex C N ρ μ k (.Tuple es kk pos) (.tup ds) := by
  intro env ok A s P
  refine wpAny_Tuple (wpAny_mono (h pos env ok A s P) (fun vs s₁ x => ⟨by rw [← x.2.length]; exact hsz, x.1.trans (Ks.push _ _), ?_⟩) fun _ _ e => e)
  simp only [Den]
  exact ⟨_, vs.toArray, rfl, (P.keeps x.1).new _ (get_size _), ⟨_, Heap.get?_push_size _ rfl, rfl, _, rfl⟩, x.2.keeps fun _ _ e => Heap.get?_push_of_some _ e⟩

end Mine
end

/-! Calc3 -/
section
namespace Mine
variable {C : Cx} {N : List (Str × NameKind)} {ρ : List (Str × D)} {μ : List (Str × List D)} {k : Nat}

noncomputable abbrev T : Addr → Prop := fun _ => True
/-- e comes out as d, to be read -/
noncomputable def Ew (C : Cx) (N : List (Str × NameKind)) (ρ : List (Str × D)) (μ : List (Str × List D)) (k : Nat) (e : Expr) (d : D) : Prop :=
  ∀ env ok A s, Pre C N ρ μ k env ok A s → wpAny C.M A (eval e env) (fun v s' => Ks s s' ∧ Den T s'.heap d v) nox s
theorem Den.weak {ok : Addr → Prop} {h : Heap} {d : D} {v : Value} (x : Den ok h d v) : Den T h d v := x.okMono fun _ _ _ => trivial
theorem DenL.weak {ok : Addr → Prop} {h : Heap} {d : List D} {v : List Value} (x : DenL ok h d v) : DenL T h d v := x.okMono fun _ _ _ => trivial
theorem Ew.of {e : Expr} {d : D} (h : Ex C N ρ μ k e d) : Ew C N ρ μ k e d := fun env ok A s P => wpAny_mono (h env ok A s P) (fun v s' x => ⟨x.1, x.2.weak⟩) fun _ _ e => e
theorem Ew.mut {x : Str} {pos : Pos} {xs : List D} (h : μ.lookup x = some xs) (hd : (x == ("__debug__" : Str)) = false := by decide) (hn : (x == ("__classdict__" : Str)) = false := by decide) : Ew C N ρ μ k (.Name x pos) (.list xs) := by
  intro env ok A s P
  obtain ⟨a, items, y, l, z⟩ := P.sim.tur x xs h
  exact wpAny_Name (load_holds (h := s.heap) P.eok.kind y hn ⟨Ks.refl s, by simp only [Den]; exact ⟨a, items, rfl, trivial, l, z⟩⟩) hd
theorem Ex.ofFlat {e : Expr} {d : D} (h : Ew C N ρ μ k e d) (f : Flat d) : Ex C N ρ μ k e d := fun env ok A s P => wpAny_mono (h env ok A s P) (fun v s' x => ⟨x.1, x.2.flat f⟩) fun _ _ e => e

/-! subscripts -/
theorem subscripted_get {M : Model} {A : Around} {E : Value → Shared → Prop} {s : Shared} {slice : Expr} {o i : Value} {Q : Value → Shared → Prop} (h : wpAny M A (getItem o i) Q E s) : wpAny M A (subscripted slice false o i) Q E s := by
  unfold subscripted
  split <;> first | exact wpAny_operating h | simp_all
theorem sub_any {A : Around} {env : Env} {s : Shared} {value slice : Expr} {pos : Pos} {Q : Value → Shared → Prop}
    (h : wpAny C.M A (eval value env) (fun o s₁ => wpAny C.M A (eval slice env) (fun i s₂ => ∃ Ty id, s₂.TypeIs o Ty ∧ typeLookup (.type Ty) "__getitem__" = pure (some (.builtin id)) ∧ wpAny C.M A (getItem o i) Q nox s₂) nox s₁) nox s) :
    wpAny C.M A (eval (.Subscript value slice pos) env) Q nox s := by
  rw [eval_Subscript]
  refine wpAny_bind (wpAny_mono h (fun o s₁ h₁ => wpAny_bind (wpAny_holding (wpAny_mono h₁ (fun i s₂ h₂ => wpAny_bind (wpAny_standAt ?_)) fun _ _ x => x))) fun _ _ x => x)
  obtain ⟨Ty, id, ht, hl, h₃⟩ := h₂
  refine wpAny_bind ?_
  rw [getitemInPython_of_ne ht.not_modules]
  refine wpAny_bind (wpAny_specialOf ht hl ?_)
  have fin : wpAny C.M A (subscripted slice false o i) (fun r s₃ => wpAny C.M A (letTemporaryGo value o r >>= fun _ => pure r) Q nox s₃) nox s₂ :=
    subscripted_get (wpAny_mono h₃ (fun r s₃ h₄ => wpAny_bind (wpAny_letTemporaryGo (wpAny_pure h₄))) fun _ _ x => x)
  first
    | exact wpAny_pure (wpAny_bind fin)
    | exact wpAny_bind (wpAny_pure (wpAny_bind fin))
    | exact wpAny_bind fin

noncomputable def Get (C : Cx) (k : Nat) (d di d' : D) : Prop :=
  ∀ A s v i, Rm k A → C.K.In s.heap → Den T s.heap d v → Den T s.heap di i → ∃ Ty id, s.TypeIs v Ty ∧ typeLookup (.type Ty) "__getitem__" = pure (some (.builtin id)) ∧ wpAny C.M A (getItem v i) (fun r s' => Ks s s' ∧ Den T s'.heap d' r) nox s
theorem Ew.sub {value slice : Expr} {pos : Pos} {d di d' : D} (h₁ : Ew C N ρ μ k value d) (h₂ : Ew C N ρ μ k slice di) (h : Get C k d di d') : Ew C N ρ μ k (.Subscript value slice pos) d' := by
  intro env ok A s P
  refine sub_any (wpAny_mono (h₁ env ok A s P) (fun v s₁ x => wpAny_mono (h₂ env ok A s₁ (P.keeps x.1)) (fun i s₂ y => ?_) fun _ _ e => e) fun _ _ e => e)
  have P₂ := (P.keeps x.1).keeps y.1
  obtain ⟨Ty, id, a, b, c⟩ := h A s₂ v i P₂.rm P₂.base (x.2.keeps y.1.keep) y.2
  exact ⟨Ty, id, a, b, wpAny_mono c (fun r s₃ z => ⟨(x.1.trans y.1).trans z.1, z.2⟩) fun _ _ e => e⟩
theorem DenL.getA {ok : Addr → Prop} {h : Heap} {ds : List D} {items : Array Value} {i : Nat} {d : D} (x : DenL ok h ds items.toList) (e : ds[i]? = some d) : ∃ v, items[i]? = some v ∧ Den ok h d v := by
  obtain ⟨v, a, b⟩ := x.get e
  exact ⟨v, by simpa using a, b⟩
theorem Get.list {xs : List D} {i : Int} {d : D} (h0 : 0 ≤ i) (h1 : i < 2 ^ 63) (hx : xs[i.toNat]? = some d) : Get C k (.list xs) (.int i) d := by
  rintro A s v w hr hb hv ⟨t, rfl⟩
  simp only [Den] at hv
  obtain ⟨a, items, rfl, _, l, z⟩ := hv
  obtain ⟨u, hu, hd⟩ := z.getA hx
  exact ⟨_, _, l.typeIs, slot_list_getitem.lookup, wpAny_getItem_list l h0 h1 hu ⟨Ks.refl s, hd⟩⟩
theorem Get.listNeg {xs : List D} {i : Int} {d : D} (h0 : i < 0) (h1 : -(xs.length : Int) ≤ i) (h2 : -(2 ^ 63) ≤ i) (hx : xs[(i + xs.length).toNat]? = some d) : Get C k (.list xs) (.int i) d := by
  rintro A s v w hr hb hv ⟨t, rfl⟩
  simp only [Den] at hv
  obtain ⟨a, items, rfl, _, l, z⟩ := hv
  have hlen : xs.length = items.size := by rw [z.length]; simp
  rw [hlen] at h1 hx
  obtain ⟨u, hu, hd⟩ := z.getA hx
  exact ⟨_, _, l.typeIs, slot_list_getitem.lookup, wpAny_getItem_list_neg l h0 h1 h2 hu ⟨Ks.refl s, hd⟩⟩
theorem Get.tup {xs : List D} {i : Int} {d : D} (h0 : 0 ≤ i) (h1 : i < 2 ^ 63) (hx : xs[i.toNat]? = some d) : Get C k (.tup xs) (.int i) d := by
  rintro A s v w hr hb hv ⟨t, rfl⟩
  simp only [Den] at hv
  obtain ⟨a, items, rfl, _, l, z⟩ := hv
  obtain ⟨u, hu, hd⟩ := z.getA hx
  have hlt : i.toNat < items.size := (Array.getElem?_eq_some_iff.mp hu).1
  exact ⟨_, _, PyProof.Rows.IsTup.typeIs l, slot_tuple_getitem.lookup, PyProof.Rows.getItem_tuple l (by lia) h1 (seqIndex_of h0 (by lia)) hu ⟨Ks.refl s, hd⟩⟩
theorem Get.str {x : Str} {i : Int} {c : Nat} (h0 : 0 ≤ i) (h1 : i < 2 ^ 63) (hx : x.cps[i.toNat]? = some c) : Get C k (.str x) (.int i) (.str ⟨#[c]⟩) := by
  rintro A s v w hr hb ⟨t', rfl⟩ ⟨t, rfl⟩
  have hlt : i.toNat < x.cps.size := (Array.getElem?_eq_some_iff.mp hx).1
  have hl : i < x.length := by show i < (x.cps.size : Int); lia
  refine ⟨"str", _, typeIs_str s x t', F.slot_str_getitem.lookup, P.getItem_str (c := c) ?_ ?_ ⟨Ks.tok s _, by simp only [Den]; exact ⟨_, rfl⟩⟩⟩
  · simp only [Bool.or_eq_false_iff, decide_eq_false_iff_not]; lia
  · rw [seqIndex_of h0 hl]; exact hx
theorem Get.strNeg {x : Str} {i : Int} {c : Nat} (h0 : i < 0) (h1 : -(x.length : Int) ≤ i) (h2 : -(2 ^ 63) ≤ i) (hx : x.cps[(i + x.length).toNat]? = some c) : Get C k (.str x) (.int i) (.str ⟨#[c]⟩) := by
  rintro A s v w hr hb ⟨t', rfl⟩ ⟨t, rfl⟩
  refine ⟨"str", _, typeIs_str s x t', F.slot_str_getitem.lookup, P.getItem_str (c := c) ?_ ?_ ⟨Ks.tok s _, by simp only [Den]; exact ⟨_, rfl⟩⟩⟩
  · simp only [Bool.or_eq_false_iff, decide_eq_false_iff_not]; lia
  · rw [seqIndex_neg h0 h1]; exact hx

/-! slices -/
/-- a bound of a slice -/
noncomputable def Px (C : Cx) (N : List (Str × NameKind)) (ρ : List (Str × D)) (μ : List (Str × List D)) (k : Nat) (e : Option Expr) (p : Option Int) : Prop :=
  ∀ env ok A s, Pre C N ρ μ k env ok A s → wpAny C.M A (evalPart e env) (fun v s' => Ks s s' ∧ ∃ q : Option (Int × Tok), v = partValue q ∧ q.map (·.1) = p) nox s
theorem Px.none : Px C N ρ μ k none none := fun env ok A s P => wpAny_pure ⟨Ks.refl s, Option.none, rfl, rfl⟩
theorem Px.int {e : Expr} {i : Int} (h : Ex C N ρ μ k e (.int i)) : Px C N ρ μ k (some e) (some i) := fun env ok A s P =>
  wpAny_mono (h env ok A s P) (fun v s' x => ⟨x.1, by obtain ⟨_, t, rfl⟩ := x; exact ⟨some (i, t), rfl, rfl⟩⟩) fun _ _ e => e
theorem Px.noneE {e : Expr} (h : Ex C N ρ μ k e .none) : Px C N ρ μ k (some e) Option.none := fun env ok A s P =>
  wpAny_mono (h env ok A s P) (fun v s' x => ⟨x.1, by obtain ⟨_, e⟩ := x; simp only [Den] at e; subst e; exact ⟨Option.none, rfl, rfl⟩⟩) fun _ _ e => e

noncomputable def cutS (x : Str) (l u : Option Int) : Str := ⟨((Builtin.Str.strSliceIndices l u 1 x.length).filterMap (x.cps[·]?)).toArray⟩
theorem filterMap_range {α : Type} (a : Array α) (st : Nat) : ∀ n, st + n ≤ a.size → ((List.range n).map fun (j : Nat) => st + j).filterMap (a[·]?) = (a.toList.drop st).take n
  | 0, _ => by simp
  | n + 1, h => by
    have e : a[st + n]? = some a[st + n] := Array.getElem?_eq_getElem (by lia)
    rw [List.range_succ, List.map_append, List.filterMap_append, filterMap_range a st n (by lia), List.take_add_one, List.getElem?_drop]
    simp [e]
theorem indices_one (a b : Int) (ha : 0 ≤ a) : sliceRange a b 1 = (List.range (b - a).toNat).map fun (j : Nat) => a.toNat + j := by
  unfold sliceRange
  simp only [show (1 : Int) > 0 by decide, if_true]
  have e : (if a < b then (b - a + 1 - 1) / 1 else 0).toNat = (b - a).toNat := by split <;> simp <;> lia
  rw [e]
  apply List.map_congr_left
  intro j _
  lia
noncomputable def clipI (n d : Int) : Option Int → Int
  | none => d
  | some i => max 0 (min (if i < 0 then i + n else i) n)
theorem clipI_nonneg (n d : Int) (h : 0 ≤ d) : ∀ o, 0 ≤ clipI n d o
  | none => h
  | some _ => Int.le_max_left _ _
noncomputable def loOf (n : Nat) : Option Int → Nat
  | none => 0
  | some i => (max 0 (min (if i < 0 then i + n else i) n)).toNat
noncomputable def hiOf (n : Nat) : Option Int → Nat
  | none => n
  | some i => (max 0 (min (if i < 0 then i + n else i) n)).toNat
theorem loOf_clip (n : Nat) : ∀ o, loOf n o = (clipI n 0 o).toNat
  | none => rfl
  | some _ => rfl
theorem hiOf_clip (n : Nat) : ∀ o, hiOf n o = (clipI n n o).toNat
  | none => rfl
  | some _ => rfl
theorem idx_clip (n : Nat) : ∀ l u, Builtin.Str.strSliceIndices l u 1 n = sliceRange (clipI n 0 l) (clipI n n u) 1
  | none, none => rfl
  | none, some _ => rfl
  | some _, none => rfl
  | some _, some _ => rfl
theorem clipI_le (n d : Int) (h : d ≤ n) (h0 : 0 ≤ n) : ∀ o, clipI n d o ≤ n
  | none => h
  | some _ => Int.max_le.mpr ⟨h0, Int.min_le_right _ _⟩
theorem hiOf_le (n : Nat) (o : Option Int) : hiOf n o ≤ n := by
  rw [hiOf_clip]
  exact Int.toNat_le.mpr (clipI_le n n (Int.le_refl _) (Int.natCast_nonneg n) o)
theorem toNat_sub' {a b : Int} (h : 0 ≤ a) : (b - a).toNat = b.toNat - a.toNat := by lia
theorem strIdx (l u : Option Int) (n : Nat) : Builtin.Str.strSliceIndices l u 1 n = (List.range (hiOf n u - loOf n l)).map fun (j : Nat) => loOf n l + j := by
  have h := clipI_nonneg n 0 (Int.le_refl _) l
  rw [idx_clip, loOf_clip, hiOf_clip, indices_one _ _ h, toNat_sub' h]
theorem cutS_eq (x : Str) (l u : Option Int) : cutS x l u = ⟨((x.cps.toList.drop (loOf x.length l)).take (hiOf x.length u - loOf x.length l)).toArray⟩ := by
  unfold cutS
  rw [strIdx]
  by_cases h : loOf x.length l ≤ hiOf x.length u
  · rw [filterMap_range]
    have : hiOf x.length u ≤ x.length := hiOf_le _ _
    show _ ≤ x.length
    lia
  · have : hiOf x.length u - loOf x.length l = 0 := by lia
    rw [this]; simp
theorem cutS_whole (x : Str) (l u : Option Int) (h : (Builtin.Str.strSliceIndices l u 1 x.length).length = x.length) : cutS x l u = x := by
  rw [strIdx] at h
  simp only [List.length_map, List.length_range] at h
  have h2 : hiOf x.length u ≤ x.length := hiOf_le _ _
  rw [cutS_eq]
  by_cases h0 : x.length = 0
  · have : x.cps.toList = [] := by
      have : x.cps.toList.length = 0 := by rw [Array.length_toList]; exact h0
      exact List.length_eq_zero_iff.mp this
    rw [this]; cases x; simp_all
  · have e1 : loOf x.length l = 0 := by lia
    have e2 : hiOf x.length u = x.length := by lia
    rw [e1, e2]
    have : x.cps.toList.length = x.length := by simp [Str.length]
    rw [List.drop_zero, Nat.sub_zero, ← this, List.take_length]
theorem Ew.sliceStr {value : Expr} {lo hi : Option Expr} {p pos : Pos} {x : Str} {l u : Option Int} (h : Ex C N ρ μ k value (.str x)) (hl : Px C N ρ μ k lo l) (hu : Px C N ρ μ k hi u) (hsz : x.length ≤ sizeLine) :
    Ex C N ρ μ k (.Subscript value (.Slice lo hi none p) pos) (.str (cutS x l u)) := by
  intro env ok A s P
  refine sub_any (wpAny_mono (h env ok A s P) (fun v s₁ a => ?_) fun _ _ e => e)
  obtain ⟨a, t, rfl⟩ := a
  refine wpAny_Slice (wpAny_mono (hl env ok A s₁ (P.keeps a)) (fun vl s₂ b => ?_) fun _ _ e => e)
  obtain ⟨b, ql, rfl, rfl⟩ := b
  refine wpAny_mono (hu env ok A s₂ ((P.keeps a).keeps b)) (fun vu s₃ c => ?_) fun _ _ e => e
  obtain ⟨c, qu, rfl, rfl⟩ := c
  rw [evalPart_none]
  refine wpAny_pure ⟨"str", _, typeIs_str _ x t, F.slot_str_getitem.lookup, wpAny_getItem_str_slice (l := ql) (u := qu) (st := none) ⟨_, Heap.get?_push_size _ rfl, rfl, rfl⟩ rfl ?_⟩
  have K3 := ((a.trans b).trans c).trans (Ks.push s₃ { cls := .type "slice", data := .fields #[partValue ql, partValue qu, .none] })
  unfold sliceMade
  split
  · rename_i hc
    refine ⟨K3, ?_⟩
    simp only [Option.map_none, Option.getD_none, beq_self_eq_true, Bool.true_and, beq_iff_eq] at hc
    rw [cutS_whole x _ _ hc]
    simp only [Den]; exact ⟨_, rfl⟩
  · refine ⟨?_, K3.trans (Ks.tok _ _), by simp only [Den]; exact ⟨_, rfl⟩⟩
    show (cutS x (ql.map (·.1)) (qu.map (·.1))).length ≤ sizeLine
    rw [cutS_eq]
    refine Nat.le_trans ?_ hsz
    simp only [Str.length, List.size_toArray, List.length_take, List.length_drop]
    simp only [Array.length_toList]
    lia

end Mine
end

/-! Calc4 -/
section
namespace Mine
variable {C : Cx} {N : List (Str × NameKind)} {ρ : List (Str × D)} {μ : List (Str × List D)} {k : Nat}

/-! new flat lists -/
noncomputable def Fx (C : Cx) (N : List (Str × NameKind)) (ρ : List (Str × D)) (μ : List (Str × List D)) (k : Nat) (e : Expr) (xs : List D) : Prop :=
  (∀ d ∈ xs, Flat d) ∧ ∀ env ok A s, Pre C N ρ μ k env ok A s → wpAny C.M A (eval e env) (fun v s' => Ks s s' ∧ ∃ a items, v = .ref a ∧ s.heap.get? a = none ∧ s'.heap.PlainList a items ∧ DenL T s'.heap xs items.toList) nox s
theorem Fx.ex {e : Expr} {xs : List D} (h : Fx C N ρ μ k e xs) : Ex C N ρ μ k e (.list xs) := fun env ok A s P =>
  wpAny_mono (h.2 env ok A s P) (fun v s' x => ⟨x.1, by
    obtain ⟨_, a, items, rfl, hn, hl, hd⟩ := x
    simp only [Den]
    exact ⟨a, items, rfl, P.new a hn, hl.isList, hd.flat h.1⟩⟩) fun _ _ e => e
noncomputable def flatB : D → Bool
  | .none | .bool _ | .int _ | .str _ => true
  | _ => false
theorem flat_of_b {d : D} (h : flatB d = true) : Flat d := by cases d <;> first | trivial | cases h
theorem flat_ints (l : List Int) : ∀ d ∈ l.map D.int, Flat d := by intro d hd; obtain ⟨i, _, rfl⟩ := List.mem_map.mp hd; trivial
theorem flat_strs (l : List Str) : ∀ d ∈ l.map D.str, Flat d := by intro d hd; obtain ⟨i, _, rfl⟩ := List.mem_map.mp hd; trivial
theorem none_keep {h h' : Heap} (k : Keep h h') {a : Addr} (e : h'.get? a = none) : h.get? a = none := by
  cases q : h.get? a with
  | none => rfl
  | some o => rw [k a o q] at e; cases e
theorem Fx.list {es : List Expr} {pos : Pos} {ds : List D} (h : ExL C N ρ μ k es ds) (hf : ds.all flatB = true := by rfl) (hsz : ds.length ≤ sizeLine := by decide) : Fx C N ρ μ k (.List es pos) ds := by
  have hf' : ∀ d ∈ ds, Flat d := fun d hd => flat_of_b (List.all_eq_true.mp hf d hd)
  refine ⟨hf', fun env ok A s P => ?_⟩
  refine wpAny_List (wpAny_mono (h pos env ok A s P) (fun vs s₁ x => ⟨by rw [← x.2.length]; exact hsz, x.1.trans (Ks.push _ _), s₁.heap.objs.size, vs.toArray, rfl, none_keep x.1.keep (get_size _), ⟨0, Heap.get?_push_size _ rfl⟩, ?_⟩) fun _ _ e => e)
  exact (x.2.weak).keeps fun _ _ e => Heap.get?_push_of_some _ e

theorem den_list {h : Heap} {xs : List D} {v : Value} {ok : Addr → Prop} (x : Den ok h (.list xs) v) : ∃ a items, v = .ref a ∧ h.IsList a items ∧ DenL ok h xs items.toList := by
  simp only [Den] at x; obtain ⟨a, items, e, _, l, z⟩ := x; exact ⟨a, items, e, l, z⟩
theorem Fx.add {l r : Expr} {pos : Pos} {xs ys : List D} (h₁ : Ew C N ρ μ k l (.list xs)) (h₂ : Ew C N ρ μ k r (.list ys)) (f₁ : ∀ d ∈ xs, Flat d) (f₂ : ∀ d ∈ ys, Flat d) (hsz : xs.length + ys.length ≤ sizeLine) : Fx C N ρ μ k (.BinOp l .Add r pos) (xs ++ ys) := by
  refine ⟨fun d hd => (List.mem_append.mp hd).elim (f₁ d) (f₂ d), fun env ok A s P => ?_⟩
  refine wpAny_BinOp (wpAny_mono (h₁ env ok A s P) (fun v s₁ x => ?_) fun _ _ e => e)
  refine wpAny_mono (h₂ env ok A s₁ (P.keeps x.1)) (fun u s₂ y => ?_) fun _ _ e => e
  obtain ⟨a, its, rfl, l1, z1⟩ := den_list (x.2.keeps y.1.keep)
  obtain ⟨b, its2, rfl, l2, z2⟩ := den_list y.2
  obtain ⟨⟨cls, dd, data, sl⟩, ho, hc, n, hd⟩ := l1
  obtain ⟨⟨cls2, dd2, data2, sl2⟩, ho2, hc2, n2, hd2⟩ := l2
  simp only at hc hd hc2 hd2
  subst hc hd hc2 hd2
  refine concat_meets ⟨_, ho, rfl⟩ ⟨_, ho2, rfl⟩ noFill_list_add seq_list_add PySem.F.slot_list_add PySem.F.entry_list_add (PySem.F.args_list_add_2 _ _) (list_addW a b its its2 n n2 dd dd2 sl sl2 ?_) ⟨ho, ho2, ?_⟩
  · have e1 := z1.length; have e2 := z2.length; simp only [Array.length_toList] at e1 e2; lia
  · refine ⟨(x.1.trans y.1).trans (Ks.push _ _), _, its ++ its2, rfl, none_keep (x.1.trans y.1).keep (get_size _), ⟨0, Heap.get?_push_size _ rfl⟩, ?_⟩
    rw [Array.toList_append]
    exact (z1.append z2).keeps fun _ _ e => Heap.get?_push_of_some _ e
theorem DenL.rep {ok : Addr → Prop} {h : Heap} {d : D} {v : Value} (x : Den ok h d v) : ∀ n, DenL ok h (List.replicate n d) (List.replicate n v)
  | 0 => by simp only [List.replicate, DenL]
  | n + 1 => by simp only [List.replicate_succ, DenL]; exact ⟨v, _, rfl, x, DenL.rep x n⟩
theorem foldl_rep {α : Type} (v : α) : ∀ (n : Nat) (acc : Array α), List.foldl (fun x1 x2 => x1 ++ x2) acc (List.replicate n #[v]) = (acc.toList ++ List.replicate n v).toArray
  | 0, acc => by simp
  | n + 1, acc => by simp [List.replicate_succ, foldl_rep v n]
theorem Fx.mul {l r : Expr} {pos : Pos} {d : D} {i : Int} (h₁ : Ew C N ρ μ k l (.list [d])) (h₂ : Ex C N ρ μ k r (.int i)) (f : Flat d) (hlo : 0 ≤ i) (hsz : i ≤ 2 ^ 20) : Fx C N ρ μ k (.BinOp l .Mult r pos) (List.replicate i.toNat d) := by
  refine ⟨fun e he => by rw [List.eq_of_mem_replicate he]; exact f, fun env ok A s P => ?_⟩
  refine wpAny_BinOp (wpAny_mono (h₁ env ok A s P) (fun v s₁ x => ?_) fun _ _ e => e)
  refine wpAny_mono (h₂ env ok A s₁ (P.keeps x.1)) (fun u s₂ y => ?_) fun _ _ e => e
  obtain ⟨y, t, rfl⟩ := y
  obtain ⟨a, its, rfl, l1, z1⟩ := den_list (x.2.keeps y.keep)
  obtain ⟨⟨cls, dd, data, sl⟩, ho, hc, n, hd⟩ := l1
  simp only at hc hd
  subst hc hd
  simp only [DenL] at z1
  obtain ⟨v, vs', e1, hv, e2⟩ := z1
  subst e2
  obtain rfl : its = #[v] := by cases its; simp_all
  refine wpAny_binaryOp_repeat_ref (T := "list") (U := "int") (by decide) ⟨_, ho, rfl⟩ (fun s' => typeIs_int s' i t) noFill_list_mul F.fills_int_mul F.slot_int_rmul repeat_list F.slot_int_index.lookup ?_
  have hs1 : (#[v] : Array Value).size = 1 := rfl
  refine call_meets F.slot_int_rmul (typeIs_int _ _ _) F.entry_int_rmul (F.args_int_rmul_2 _ _) (lm_int_rmul_list_any i t a #[v] n dd sl) ⟨ho, rfl, ⟨_, ho, rfl⟩, ?_⟩
  refine call_meets F.slot_list_mul ⟨_, ho, rfl⟩ F.entry_list_mul (F.args_list_mul_2 _ _) (lm_list_mul_any a #[v] n dd sl i t (by simp [Builtin.List.listFitsIndex]; lia) (by rw [hs1]; lia) (by rw [hs1]; simp [Builtin.List.listTooLong, sizeLine]; lia)) ⟨ho, ?_⟩
  refine ⟨(x.1.trans y).trans (Ks.push _ _), _, _, rfl, none_keep (x.1.trans y).keep (get_size _), ⟨0, Heap.get?_push_size _ rfl⟩, ?_⟩
  have hq : (List.foldl (fun x1 x2 => x1 ++ x2) #[] (List.replicate i.toNat #[v])).toList = List.replicate i.toNat v := by rw [foldl_rep]; simp
  show DenL T _ _ (List.foldl (fun x1 x2 => x1 ++ x2) #[] (List.replicate i.toNat #[v])).toList
  rw [hq]
  exact (DenL.rep hv _).keeps fun _ _ e => Heap.get?_push_of_some _ e

/-! slices of lists -/
noncomputable def cutL (xs : List D) (l u : Option Int) : List D := (xs.drop (loOf xs.length l)).take (hiOf xs.length u - loOf xs.length l)
theorem sliceB (l u : Option Int) (n : Nat) : sliceRange (sliceBounds l u none n).1 (sliceBounds l u none n).2.1 (sliceBounds l u none n).2.2 = (List.range (hiOf n u - loOf n l)).map fun (j : Nat) => loOf n l + j := strIdx l u n
theorem slicePick_eq (items : Array Value) (l u : Option Int) : slicePick items l u none = ((items.toList.drop (loOf items.size l)).take (hiOf items.size u - loOf items.size l)).toArray := by
  unfold slicePick
  rw [sliceB]
  by_cases h : loOf items.size l ≤ hiOf items.size u
  · rw [filterMap_range]
    have : hiOf items.size u ≤ items.size := by cases u <;> simp only [hiOf] <;> lia
    lia
  · have : hiOf items.size u - loOf items.size l = 0 := by lia
    rw [this]; simp
theorem DenL.drop {ok : Addr → Prop} {h : Heap} : ∀ {ds : List D} {vs : List Value} (n : Nat), DenL ok h ds vs → DenL ok h (ds.drop n) (vs.drop n)
  | _, _, 0, x => by simpa using x
  | [], _, n + 1, x => by simp only [DenL] at x; subst x; simp only [List.drop_nil, DenL]
  | d :: ds, _, n + 1, x => by
    simp only [DenL] at x
    obtain ⟨v, vs', rfl, _, z⟩ := x
    simpa using DenL.drop n z
theorem DenL.take {ok : Addr → Prop} {h : Heap} : ∀ {ds : List D} {vs : List Value} (n : Nat), DenL ok h ds vs → DenL ok h (ds.take n) (vs.take n)
  | _, _, 0, x => by simp only [List.take_zero, DenL]
  | [], _, n + 1, x => by simp only [DenL] at x; subst x; simp only [List.take_nil, DenL]
  | d :: ds, _, n + 1, x => by
    simp only [DenL] at x
    obtain ⟨v, vs', rfl, y, z⟩ := x
    simp only [List.take_succ_cons, DenL]
    exact ⟨v, _, rfl, y, DenL.take n z⟩
theorem part_is {q : Option (Int × Tok)} : IsPart (partValue q) (q.map (·.1)) := by
  cases q with
  | none => exact .none
  | some p => exact .int p.1 p.2
theorem Fx.slice {value : Expr} {lo hi : Option Expr} {p pos : Pos} {xs : List D} {l u : Option Int} (h : Ew C N ρ μ k value (.list xs)) (f : ∀ d ∈ xs, Flat d) (hl : Px C N ρ μ k lo l) (hu : Px C N ρ μ k hi u) (hsz : xs.length ≤ sizeLine) :
    Fx C N ρ μ k (.Subscript value (.Slice lo hi none p) pos) (cutL xs l u) := by
  refine ⟨fun d hd => f d (List.mem_of_mem_drop (List.mem_of_mem_take hd)), fun env ok A s P => ?_⟩
  refine sub_any (wpAny_mono (h env ok A s P) (fun v s₁ a => ?_) fun _ _ e => e)
  refine wpAny_Slice (wpAny_mono (hl env ok A s₁ (P.keeps a.1)) (fun vl s₂ b => ?_) fun _ _ e => e)
  obtain ⟨b, ql, rfl, rfl⟩ := b
  refine wpAny_mono (hu env ok A s₂ ((P.keeps a.1).keeps b)) (fun vu s₃ c => ?_) fun _ _ e => e
  obtain ⟨c, qu, rfl, rfl⟩ := c
  rw [evalPart_none]
  have K2 := (b.trans c).trans (Ks.push s₃ { cls := .type "slice", data := .fields #[partValue ql, partValue qu, .none] })
  obtain ⟨x, its, rfl, l1, z1⟩ := den_list (a.2.keeps K2.keep)
  refine wpAny_pure ⟨"list", _, l1.typeIs, slot_list_getitem.lookup, wpAny_getItem_list_slice l1 (Heap.IsSliceOf.new _ _ _ _) part_is part_is .none (by intro e; cases e) ?_ ?_⟩
  · refine ⟨(a.1.trans K2).trans (Ks.push _ _), _, _, rfl, none_keep (a.1.trans K2).keep (get_size _), ⟨0, Heap.get?_push_size _ rfl⟩, ?_⟩
    rw [slicePick_eq]
    have e : xs.length = its.size := by rw [z1.length, Array.length_toList]
    unfold cutL
    rw [e]
    exact ((z1.drop _).take _).keeps fun _ _ e => Heap.get?_push_of_some _ e
  · have e : xs.length = its.size := by rw [z1.length, Array.length_toList]
    rw [← e]; exact hsz

/-! global names -/
theorem Vx.global {x : Str} {pos : Pos} {v : Value} (hx : N.lookup x = some .globalImplicit) (h : C.G x = some v) (hd : (x == ("__debug__" : Str)) = false := by decide) : Vx C N ρ μ k (.Name x pos) v := by
  intro env ok A s P
  obtain ⟨g, b, _⟩ := C.tops _ P.base
  exact Calls.Name_function_global P.eok.kind (by unfold Env.kindOf; rw [P.eok.names]; exact hx) (Calls.loadGlobal_global (by rw [P.eok.globals]; exact g) h ⟨Ks.refl s, rfl⟩) hd
theorem Vx.builtin {x : Str} {pos : Pos} {v : Value} (hx : N.lookup x = some .globalImplicit) (hg : C.G x = none) (h : C.B x = some v) (hd : (x == ("__debug__" : Str)) = false := by decide) : Vx C N ρ μ k (.Name x pos) v := by
  intro env ok A s P
  obtain ⟨g, b, _⟩ := C.tops _ P.base
  exact Calls.Name_function_global P.eok.kind (by unfold Env.kindOf; rw [P.eok.names]; exact hx) (Calls.loadGlobal_builtin (by rw [P.eok.globals]; exact g) hg (by rw [P.eok.builtins]; exact b) h ⟨Ks.refl s, rfl⟩) hd
theorem Ex.global {x : Str} {pos : Pos} {d : D} {v : Value} (hx : N.lookup x = some .globalImplicit) (h : C.G x = some v) (hv : ∀ ok h, Den ok h d v) (hd : (x == ("__debug__" : Str)) = false := by decide) : Ex C N ρ μ k (.Name x pos) d :=
  fun env ok A s P => wpAny_mono (Vx.global hx h hd env ok A s P) (fun v' s' y => ⟨y.1, by rw [y.2]; exact hv _ _⟩) fun _ _ e => e

/-! calls of built-ins -/
noncomputable def EwL (C : Cx) (N : List (Str × NameKind)) (ρ : List (Str × D)) (μ : List (Str × List D)) (k : Nat) (es : List Expr) (ds : List D) : Prop :=
  (∀ env, ∀ pos, (backTo pos (starEach es env)).any (·.1) = false) ∧ ∀ pos env ok A s, Pre C N ρ μ k env ok A s → wpAny C.M A (spliced (backTo pos (starEach es env))) (fun vs s' => Ks s s' ∧ DenL T s'.heap ds vs) nox s
theorem EwL.nil : EwL C N ρ μ k [] [] := ⟨fun _ _ => rfl, fun pos env ok A s P => wpAny_items_nil ⟨Ks.refl s, by simp only [DenL]⟩⟩
theorem EwL.cons {e : Expr} {es : List Expr} {d : D} {ds : List D} (h : Ew C N ρ μ k e d) (hs : EwL C N ρ μ k es ds) (he : ∀ env, starEach (e :: es) env = (false, eval e env) :: starEach es env := by intro _; rfl) : EwL C N ρ μ k (e :: es) (d :: ds) := by
  refine ⟨fun env pos => ?_, fun pos env ok A s P => ?_⟩
  · rw [he env]
    show (false || (backTo pos (starEach es env)).any (·.1)) = false
    rw [hs.1 env pos]; rfl
  · refine wpAny_items_cons (wpAny_mono (h env ok A s P) (fun v s₁ x => ?_) fun _ _ e => e) (he env)
    refine wpAny_mono (hs.2 pos env ok A s₁ (P.keeps x.1)) (fun vs s₂ y => ⟨x.1.trans y.1, ?_⟩) fun _ _ e => e
    simp only [DenL]; exact ⟨v, vs, rfl, x.2.keeps y.1.keep, y.2⟩
/-- a call of fv upon ds gives d -/
noncomputable def Clv (C : Cx) (k : Nat) (fv : Value) (ds : List D) (d : D) : Prop :=
  ∀ ok A s vs, Rm k A → C.K.In s.heap → (∀ a, s.heap.get? a = none → ok a) → DenL T s.heap ds vs → wpAny C.M A (call fv vs) (fun v s' => Ks s s' ∧ Den ok s'.heap d v) nox s
theorem Ex.callB {f e : Expr} {es : List Expr} {pos : Pos} {id : String} {ds : List D} {d : D} (hf : Vx C N ρ μ k f (.builtin id)) (ha : EwL C N ρ μ k (e :: es) ds) (hc : Clv C k (.builtin id) ds d)
    (hn : ∀ env, eval (.Call f (e :: es) [] pos) env = (do callWith pos (← eval f env) [] (backTo pos (starEach (e :: es) env)) (backToKw pos (keywordEach [] env))) := by intro _; rfl)
    (he : ∀ env, starEach (e :: es) env = (false, eval e env) :: starEach es env := by intro _; rfl) : Ex C N ρ μ k (.Call f (e :: es) [] pos) d := by
  intro env ok A s P
  rw [hn env]
  refine wpAny_bind (wpAny_mono (hf env ok A s P) (fun v s₁ x => ?_) fun _ _ e => e)
  obtain ⟨x, rfl⟩ := x
  have hp := ha.1 env pos
  rw [he env] at hp
  refine callWith_builtin1 (wpAny_mono (ha.2 pos env ok A s₁ (P.keeps x)) (fun vs s₂ y => ?_) fun _ _ e => e) (he env) (by simpa [backTo] using hp)
  have P₂ := (P.keeps x).keeps y.1
  exact wpAny_mono (hc ok A s₂ vs P₂.rm P₂.base P₂.new y.2) (fun r s₃ z => ⟨(x.trans y.1).trans z.1, z.2⟩) fun _ _ e => e
theorem Ex.callT {f e : Expr} {es : List Expr} {pos : Pos} {id : String} {ds : List D} {d : D} (hf : Vx C N ρ μ k f (.type id)) (ha : EwL C N ρ μ k (e :: es) ds) (hc : Clv C k (.type id) ds d)
    (hn : ∀ env, eval (.Call f (e :: es) [] pos) env = (do callWith pos (← eval f env) [] (backTo pos (starEach (e :: es) env)) (backToKw pos (keywordEach [] env))) := by intro _; rfl)
    (he : ∀ env, starEach (e :: es) env = (false, eval e env) :: starEach es env := by intro _; rfl) : Ex C N ρ μ k (.Call f (e :: es) [] pos) d := by
  intro env ok A s P
  rw [hn env]
  refine wpAny_bind (wpAny_mono (hf env ok A s P) (fun v s₁ x => ?_) fun _ _ e => e)
  obtain ⟨x, rfl⟩ := x
  have hp := ha.1 env pos
  rw [he env] at hp
  refine callWith_type1 (wpAny_mono (ha.2 pos env ok A s₁ (P.keeps x)) (fun vs s₂ y => ?_) fun _ _ e => e) (he env) (by simpa [backTo] using hp)
  have P₂ := (P.keeps x).keeps y.1
  exact wpAny_mono (hc ok A s₂ vs P₂.rm P₂.base P₂.new y.2) (fun r s₃ z => ⟨(x.trans y.1).trans z.1, z.2⟩) fun _ _ e => e

theorem den1 {ok : Addr → Prop} {h : Heap} {d : D} {vs : List Value} (x : DenL ok h [d] vs) : ∃ v, vs = [v] ∧ Den ok h d v := by
  simp only [DenL] at x; obtain ⟨v, vs', rfl, y, rfl⟩ := x; exact ⟨v, rfl, y⟩
theorem den2 {ok : Addr → Prop} {h : Heap} {d d' : D} {vs : List Value} (x : DenL ok h [d, d'] vs) : ∃ v v', vs = [v, v'] ∧ Den ok h d v ∧ Den ok h d' v' := by
  simp only [DenL] at x; obtain ⟨v, _, rfl, y, v', _, rfl, z, rfl⟩ := x; exact ⟨v, v', rfl, y, z⟩
theorem den_int {ok : Addr → Prop} {h : Heap} {i : Int} {t : Tok} : Den ok h (.int i) (.int i t) := by simp only [Den]; exact ⟨_, rfl⟩
theorem den_str {ok : Addr → Prop} {h : Heap} {x : Str} {t : Tok} : Den ok h (.str x) (.str x t) := by simp only [Den]; exact ⟨_, rfl⟩
theorem Clv.lenList {xs : List D} (h : xs.length < 2 ^ 60) : Clv C k (.builtin "len") [.list xs] (.int xs.length) := by
  intro ok A s vs hr hb hn hv
  obtain ⟨v, rfl, hd⟩ := den1 hv
  obtain ⟨a, its, rfl, l, z⟩ := den_list hd
  have e : xs.length = its.size := by rw [z.length, Array.length_toList]
  exact PyProof.Rows.len_list l (by lia) ⟨Ks.tok s _, by rw [e]; exact den_int⟩
theorem Clv.lenTup {xs : List D} (h : xs.length < 2 ^ 60) : Clv C k (.builtin "len") [.tup xs] (.int xs.length) := by
  intro ok A s vs hr hb hn hv
  obtain ⟨v, rfl, hd⟩ := den1 hv
  simp only [Den] at hd
  obtain ⟨a, its, rfl, _, l, z⟩ := hd
  have e : xs.length = its.size := by rw [z.length, Array.length_toList]
  exact PyProof.Rows.len_tuple l (by lia) ⟨Ks.tok s _, by rw [e]; exact den_int⟩
theorem Clv.lenStr {x : Str} (h : x.length < 2 ^ 60) : Clv C k (.builtin "len") [.str x] (.int x.length) := by
  intro ok A s vs hr hb hn hv
  obtain ⟨v, rfl, t, rfl⟩ := den1 hv
  exact PyProof.Rows.len_str (by lia) ⟨Ks.tok s _, den_int⟩
theorem Clv.ord {c : Nat} : Clv C k (.builtin "ord") [.str ⟨#[c]⟩] (.int c) := by
  intro ok A s vs hr hb hn hv
  obtain ⟨v, rfl, t, rfl⟩ := den1 hv
  exact PySem.P.ord_of_char ⟨Ks.tok s _, den_int⟩
theorem Clv.chr {i : Int} (h0 : 0 ≤ i) (h1 : i ≤ 0x10FFFF) : Clv C k (.builtin "chr") [.int i] (.str ⟨#[i.toNat]⟩) := by
  intro ok A s vs hr hb hn hv
  obtain ⟨v, rfl, t, rfl⟩ := den1 hv
  exact PySem.P.chr_of_int (by simp only [Bool.or_eq_false_iff, decide_eq_false_iff_not]; lia) ⟨Ks.tok s _, den_str⟩
theorem Clv.max2 {i j : Int} : Clv C k (.builtin "max") [.int i, .int j] (.int (max i j)) := by
  intro ok A s vs hr hb hn hv
  obtain ⟨v, v', rfl, ⟨t, rfl⟩, ⟨u, rfl⟩⟩ := den2 hv
  refine max_two_ints hr.hand fun h' tk hk => ⟨⟨h', tk, rfl, hk⟩, ?_⟩
  split
  · rw [show max i j = j by lia]; exact den_int
  · rw [show max i j = i by lia]; exact den_int
theorem Clv.min2 {i j : Int} : Clv C k (.builtin "min") [.int i, .int j] (.int (min i j)) := by
  intro ok A s vs hr hb hn hv
  obtain ⟨v, v', rfl, ⟨t, rfl⟩, ⟨u, rfl⟩⟩ := den2 hv
  refine min_two_ints hr.hand fun h' tk hk => ⟨⟨h', tk, rfl, hk⟩, ?_⟩
  split
  · rw [show min i j = j by lia]; exact den_int
  · rw [show min i j = i by lia]; exact den_int
theorem Clv.tuple {xs : List D} (f : ∀ d ∈ xs, Flat d) (h : xs.length ≤ sizeLine) : Clv C k (.type "tuple") [.list xs] (.tup xs) := by
  intro ok A s vs hr hb hn hv
  obtain ⟨v, rfl, hd⟩ := den1 hv
  obtain ⟨a, its, rfl, l, z⟩ := den_list hd
  have e : xs.length = its.size := by rw [z.length, Array.length_toList]
  refine call_tuple_list l (fun h' hk => ⟨⟨_, s.toks, rfl, fun b o e => Heap.get?_push_of_some _ (hk b o e)⟩, ?_⟩) (by rw [← e]; exact h)
  simp only [Den]
  exact ⟨_, its, rfl, hn _ (none_keep hk (get_size _)), ⟨_, Heap.get?_push_size _ rfl, rfl, _, rfl⟩, z.flat f⟩

end Mine
end

/-! Calc5 -/
section
namespace Mine
variable {C : Cx} {N : List (Str × NameKind)} {ρ : List (Str × D)} {μ : List (Str × List D)} {k : Nat}

/-! iterables -/
noncomputable def IterOf (C : Cx) (A : Around) (okf : Addr → Prop) (h₀ : Heap) (ds : List D) (it : Value) (h : Heap) : Prop :=
  ∃ I fp wr P St, And8 (it = .ref I) (Walks C.prog C.w A I fp wr ds.length P St) (St 0 h) ((∀ b ∈ fp, b < h.objs.size)) ((∀ b ∈ fp, okf b)) ((∀ b ∈ wr, h₀.get? b = none)) ((∀ i v, i < ds.length → P i v → ∃ d, ds[i]? = some d ∧ Den T h d v)) (∀ i h, St i h → ∀ b ∈ fp, (h.get? b).isSome = true)
structure Ixo (C : Cx) (N : List (Str × NameKind)) (ρ : List (Str × D)) (μ : List (Str × List D)) (k : Nat) (weak : Bool) (e : Expr) (ds : List D) : Prop where
  flat : ∀ d ∈ ds, Flat d
  size : ds.length ≤ sizeLine
  run : ∀ env ok A s, Pre C N ρ μ k env ok A s → wpAny C.M A (eval e env) (fun v s₁ => wpAny C.M A (pyIter v) (fun it s₂ => Ks s s₂ ∧ IterOf C A (if weak = true then T else ok) s.heap ds it s₂.heap) nox s₁) nox s
  plain : ∀ env x, foldedSetIterable e env x = pure x
noncomputable abbrev Ixw (C : Cx) (N : List (Str × NameKind)) (ρ : List (Str × D)) (μ : List (Str × List D)) (k : Nat) (e : Expr) (ds : List D) : Prop := Ixo C N ρ μ k true e ds
noncomputable abbrev Ix (C : Cx) (N : List (Str × NameKind)) (ρ : List (Str × D)) (μ : List (Str × List D)) (k : Nat) (e : Expr) (ds : List D) : Prop := Ixo C N ρ μ k false e ds
theorem lt_of_get {h : Heap} {a : Addr} {o : Obj} (e : h.get? a = some o) : a < h.objs.size := Heap.lt_size e
theorem Ixw.list {e : Expr} {ds : List D} (h : Ew C N ρ μ k e (.list ds)) (f : ∀ d ∈ ds, Flat d) (hsz : ds.length ≤ sizeLine) (hs : ∀ env x, foldedSetIterable e env x = pure x := by intro _ _; rfl) : Ixw C N ρ μ k e ds := by
  refine ⟨f, hsz, fun env ok A s P => wpAny_mono (h env ok A s P) (fun v s₁ x => ?_) fun _ _ e => e, hs⟩
  obtain ⟨a, items, rfl, l, z⟩ := den_list x.2
  obtain ⟨o, ho, hr⟩ := id l
  have hne : a ≠ s₁.heap.objs.size := Nat.ne_of_lt (lt_of_get ho)
  have hlen : ds.length = items.size := by rw [z.length, Array.length_toList]
  refine wpAny_pyIter_list l ⟨x.1.trans (Ks.push _ _), _, [s₁.heap.objs.size, a], [s₁.heap.objs.size], (fun i v => items[i]? = some v), _, rfl, hlen ▸ Walks.list P.rm.hand _ a hne items, ⟨⟨_, Heap.get?_push_size _ rfl, rfl, rfl⟩, l.push _⟩, ?_, fun _ _ => trivial, ?_, ?_, ?_⟩
  · intro b hb
    show b < (s₁.heap.push _).objs.size
    rw [Heap.size_push]
    rcases List.mem_cons.mp hb with rfl | hb
    · exact Nat.lt_succ_self _
    · simp at hb; subst hb; exact Nat.lt_succ_of_lt (lt_of_get ho)
  · intro b hb; simp at hb; subst hb; exact none_keep x.1.keep (get_size _)
  · intro i v hi hv
    refine ⟨ds[i], List.getElem?_eq_getElem hi, ?_⟩
    obtain ⟨u, hu, hd⟩ := z.getA (List.getElem?_eq_getElem hi)
    rw [hu] at hv; cases hv
    exact hd.flat (f _ (List.getElem_mem hi))
  · rintro i h ⟨⟨o, ho, _⟩, ⟨o2, ho2, _⟩⟩ b hb
    rcases List.mem_cons.mp hb with rfl | hb
    · rw [ho]; rfl
    · simp at hb; subst hb; rw [ho2]; rfl
theorem Ix.list {e : Expr} {ds : List D} (h : Ex C N ρ μ k e (.list ds)) (f : ∀ d ∈ ds, Flat d) (hsz : ds.length ≤ sizeLine) (hs : ∀ env x, foldedSetIterable e env x = pure x := by intro _ _; rfl) : Ix C N ρ μ k e ds := by
  refine ⟨f, hsz, fun env ok A s P => wpAny_mono (h env ok A s P) (fun v s₁ x => ?_) fun _ _ e => e, hs⟩
  have hx := x.2
  simp only [Den] at hx
  obtain ⟨a, items, rfl, hok, l, z⟩ := hx
  obtain ⟨o, ho, hr⟩ := id l
  have hne : a ≠ s₁.heap.objs.size := Nat.ne_of_lt (lt_of_get ho)
  have hlen : ds.length = items.size := by rw [z.length, Array.length_toList]
  refine wpAny_pyIter_list l ⟨x.1.trans (Ks.push _ _), _, [s₁.heap.objs.size, a], [s₁.heap.objs.size], (fun i v => items[i]? = some v), _, rfl, hlen ▸ Walks.list P.rm.hand _ a hne items, ⟨⟨_, Heap.get?_push_size _ rfl, rfl, rfl⟩, l.push _⟩, ?_, ?_, ?_, ?_, ?_⟩
  · intro b hb
    show b < (s₁.heap.push _).objs.size
    rw [Heap.size_push]
    rcases List.mem_cons.mp hb with rfl | hb
    · exact Nat.lt_succ_self _
    · simp at hb; subst hb; exact Nat.lt_succ_of_lt (lt_of_get ho)
  · intro b hb
    simp only [Bool.false_eq_true, if_false]
    rcases List.mem_cons.mp hb with rfl | hb
    · exact P.new _ (none_keep x.1.keep (get_size _))
    · simp at hb; subst hb; exact hok
  · intro b hb; simp at hb; subst hb; exact none_keep x.1.keep (get_size _)
  · intro i v hi hv
    refine ⟨ds[i], List.getElem?_eq_getElem hi, ?_⟩
    obtain ⟨u, hu, hd⟩ := z.getA (List.getElem?_eq_getElem hi)
    rw [hu] at hv; cases hv
    exact hd.flat (f _ (List.getElem_mem hi))
  · rintro i h ⟨⟨o, ho, _⟩, ⟨o2, ho2, _⟩⟩ b hb
    rcases List.mem_cons.mp hb with rfl | hb
    · rw [ho]; rfl
    · simp at hb; subst hb; rw [ho2]; rfl
/-- the signs of a text -/
noncomputable def signsD (x : Str) : List D := x.cps.toList.map fun c => .str ⟨#[c]⟩
theorem signsD_flat (x : Str) : ∀ d ∈ signsD x, Flat d := by intro d hd; obtain ⟨c, _, rfl⟩ := List.mem_map.mp hd; trivial
theorem pyIter_strL {A : Around} {s : Shared} {x : Str} {t : Tok} {Q : Value → Shared → Prop}
    (hQ : ∀ (o : Obj) (St : Nat → Heap → Prop), (∀ A' : Around, A'.handled = none → Walks C.prog C.w A' s.heap.objs.size [s.heap.objs.size] [s.heap.objs.size] x.cps.size (SignAt x) St) → St 0 (s.heap.push o) →
      (∀ i h, St i h → ∀ b ∈ [s.heap.objs.size], (h.get? b).isSome = true) → Q (.ref s.heap.objs.size) { s with heap := s.heap.push o }) : wpAny C.M A (pyIter (.str x t)) Q nox s := by
  have live : ∀ (cl : String) i (h : Heap), h.IsStrIter s.heap.objs.size cl x t i → ∀ b ∈ [s.heap.objs.size], (h.get? b).isSome = true := by
    rintro cl i h ⟨o, ho, _⟩ b hb
    simp at hb; subst hb; rw [ho]; rfl
  cases ha : x.cps.all (· < 128)
  · exact wpAny_pyIter_wide ha (hQ _ _ (fun A' hA => Walks.strWide hA _ x t) ⟨_, Heap.get?_push_size _ rfl, rfl, rfl⟩ (live _))
  · exact wpAny_pyIter_ascii ha (hQ _ _ (fun A' hA => Walks.strAscii hA _ x t) ⟨_, Heap.get?_push_size _ rfl, rfl, rfl⟩ (live _))
theorem Ixo.str {weak : Bool} {e : Expr} {x : Str} (h : Ex C N ρ μ k e (.str x)) (hsz : x.length ≤ sizeLine) (hs : ∀ env x, foldedSetIterable e env x = pure x := by intro _ _; rfl) : Ixo C N ρ μ k weak e (signsD x) := by
  have hlen : (signsD x).length = x.cps.size := by simp [signsD]
  refine ⟨signsD_flat x, by rw [hlen]; exact hsz, fun env ok A s P => wpAny_mono (h env ok A s P) (fun v s₁ y => ?_) fun _ _ e => e, hs⟩
  obtain ⟨y, t, rfl⟩ := y
  refine pyIter_strL fun o St W st live => ⟨y.trans (Ks.push _ _), _, _, _, _, St, rfl, hlen ▸ W A P.rm.hand, st, ?_, ?_, ?_, ?_, live⟩
  · intro b hb; simp at hb; subst hb; simp [Heap.size_push]
  · intro b hb; simp at hb; subst hb
    cases weak
    · exact P.new _ (none_keep y.keep (get_size _))
    · trivial
  · intro b hb; simp at hb; subst hb; exact none_keep y.keep (get_size _)
  · rintro i v _ ⟨c, u, hc, rfl⟩
    exact ⟨.str ⟨#[c]⟩, by simp [signsD, hc], den_str⟩
noncomputable def rangeD (a b : Int) : List D := (List.range (b - a).toNat).map fun (n : Nat) => .int (a + n)
theorem rangeD_flat (a b : Int) : ∀ d ∈ rangeD a b, Flat d := by intro d hd; obtain ⟨c, _, rfl⟩ := List.mem_map.mp hd; trivial
theorem range_iter {A : Around} {ok : Addr → Prop} {weak : Bool} {s s₁ : Shared} {a b : Int} {t u v : Tok} (hk : Ks s s₁) (hh : A.handled = none) (hn : ∀ a, s.heap.get? a = none → ok a)
    (ha : -(2 ^ 60) ≤ a) (ha' : a < 2 ^ 60) (hb : -(2 ^ 60) ≤ b) (hb' : b < 2 ^ 60) {r : Addr} (hr : IsRange s₁.heap r a b 1 t u v) :
    wpAny C.M A (pyIter (.ref r)) (fun it s₂ => Ks s s₂ ∧ IterOf C A (if weak = true then T else ok) s.heap (rangeD a b) it s₂.heap) nox s₁ := by
  refine wpAny_pyIter_range hr (small_one (by lia) (by lia) (by lia) (by lia)) ⟨hk.trans (Ks.push _ _), ?_⟩
  have hlen : (rangeD a b).length = (b - a).toNat := by simp [rangeD]
  refine ⟨_, [s₁.heap.objs.size], [s₁.heap.objs.size], _, _, rfl, Walks.range hh _ a 1 (rangeD a b).length, ?_, ?_, ?_, ?_, ?_, ?_⟩
  · have hsz : Builtin.Range.rangeSize a b 1 = (((b - a).toNat : Nat) : Int) := by rw [rangeSize_one]; split <;> lia
    have e1 : a + ((0 : Nat) : Int) * 1 = a := by simp
    have e2 : (((rangeD a b).length : Nat) : Int) - ((0 : Nat) : Int) = Builtin.Range.rangeSize a b 1 := by rw [hsz, hlen]; simp
    rw [e1, e2]
    exact Heap.get?_push_size _ rfl
  · intro b hb; simp at hb; subst hb; simp [Heap.size_push]
  · intro b hb; simp at hb; subst hb
    cases weak
    · exact hn _ (none_keep hk.keep (get_size _))
    · trivial
  · intro b hb; simp at hb; subst hb; exact none_keep hk.keep (get_size _)
  · rintro i v hi ⟨t, rfl⟩
    refine ⟨.int (a + i), ?_, by rw [Int.mul_one]; exact den_int⟩
    rw [hlen] at hi
    simp [rangeD, List.getElem?_range hi]
  · intro i h st b hb
    simp at hb; subst hb
    rw [show h.get? _ = _ from st]; rfl
theorem den_int' {ok : Addr → Prop} {h : Heap} {i : Int} {v : Value} (x : Den ok h (.int i) v) : ∃ t, v = .int i t := by simpa only [Den] using x
theorem Ixo.range1 {weak : Bool} {f e : Expr} {pos : Pos} {j : Int} (hf : Vx C N ρ μ k f (.type "range")) (h : Ex C N ρ μ k e (.int j)) (hb : -(2 ^ 60) ≤ j) (hb' : j < 2 ^ 60) (hsz : j ≤ 2 ^ 20)
    (hn : ∀ env, eval (.Call f [e] [] pos) env = (do callWith pos (← eval f env) [] (backTo pos (starEach [e] env)) (backToKw pos (keywordEach [] env))) := by intro _; rfl)
    (he : ∀ env, starEach [e] env = (false, eval e env) :: starEach [] env := by intro _; rfl) : Ixo C N ρ μ k weak (.Call f [e] [] pos) (rangeD 0 j) := by
  refine ⟨rangeD_flat 0 j, by simp [rangeD, sizeLine]; lia, fun env ok A s P => ?_, fun _ _ => rfl⟩
  rw [hn env]
  refine wpAny_bind (wpAny_mono (hf env ok A s P) (fun v s₁ x => ?_) fun _ _ e => e)
  obtain ⟨x, rfl⟩ := x
  refine callWith_type1 (wpAny_items_cons (wpAny_mono (h env ok A s₁ (P.keeps x)) (fun v s₂ y => wpAny_items_nil ?_) fun _ _ e => e) (he env)) (he env) rfl
  obtain ⟨y, t, rfl⟩ := y
  exact call_range_1 (range_iter ((x.trans y).trans ⟨_, _, rfl, fun _ _ e => Heap.get?_push_of_some _ e⟩) P.rm.hand P.new (by decide) (by decide) hb hb' (IsRange.new ..))
theorem Ixo.range2 {weak : Bool} {f e e' : Expr} {pos : Pos} {i j : Int} (hf : Vx C N ρ μ k f (.type "range")) (h : Ex C N ρ μ k e (.int i)) (h' : Ex C N ρ μ k e' (.int j)) (ha : -(2 ^ 60) ≤ i) (ha' : i < 2 ^ 60) (hb : -(2 ^ 60) ≤ j) (hb' : j < 2 ^ 60) (hsz : j - i ≤ 2 ^ 20)
    (hn : ∀ env, eval (.Call f [e, e'] [] pos) env = (do callWith pos (← eval f env) [] (backTo pos (starEach [e, e'] env)) (backToKw pos (keywordEach [] env))) := by intro _; rfl)
    (he : ∀ env, starEach [e, e'] env = (false, eval e env) :: starEach [e'] env := by intro _; rfl) (he' : ∀ env, starEach [e'] env = (false, eval e' env) :: starEach [] env := by intro _; rfl) : Ixo C N ρ μ k weak (.Call f [e, e'] [] pos) (rangeD i j) := by
  refine ⟨rangeD_flat i j, by simp [rangeD, sizeLine]; lia, fun env ok A s P => ?_, fun _ _ => rfl⟩
  rw [hn env]
  refine wpAny_bind (wpAny_mono (hf env ok A s P) (fun v s₁ x => ?_) fun _ _ e => e)
  obtain ⟨x, rfl⟩ := x
  refine callWith_type1 (wpAny_items_cons (wpAny_mono (h env ok A s₁ (P.keeps x)) (fun v s₂ y => ?_) fun _ _ e => e) (he env)) (he env) (by rw [he' env]; rfl)
  refine wpAny_items_cons (wpAny_mono (h' env ok A s₂ ((P.keeps x).keeps y.1)) (fun v' s₃ z => wpAny_items_nil ?_) fun _ _ e => e) (he' env)
  obtain ⟨y, t, rfl⟩ := y
  obtain ⟨z, u, rfl⟩ := z
  exact call_range_2 (range_iter (((x.trans y).trans z).trans ⟨_, _, rfl, fun _ _ e => Heap.get?_push_of_some _ e⟩) P.rm.hand P.new ha ha' hb hb' (IsRange.new ..))

/-! the frame of a comprehension -/
noncomputable def relK (N : List (Str × NameKind)) (n : Str) (k : NameKind) : NameKind := if (k == .free && N.lookup n == some .cell) then .cell else k
noncomputable def relN (names N : List (Str × NameKind)) : List (Str × NameKind) := names.map fun x => (x.1, relK N x.1 x.2)
noncomputable def closOf (env : Env) : List (Str × NameKind) → List (Str × Addr) → List (Str × Addr)
  | [], acc => acc
  | (n, k) :: r, acc => if k == .free then closOf env r ((n, (env.cells.lookup n).getD 0) :: acc) else closOf env r acc
theorem closure_go {env : Env} : ∀ (names : List (Str × NameKind)) (acc : List (Str × Addr)), (∀ n, (n, NameKind.free) ∈ names → (env.cells.lookup n).isSome = true) →
    (forIn names acc fun (x : Str × NameKind) (r : List (Str × Addr)) => if x.2 == .free then do let c ← cellOf env x.1; pure (ForInStep.yield ((x.1, c) :: r)) else pure (ForInStep.yield r) : Sem (List (Str × Addr))) = pure (closOf env names acc)
  | [], acc, _ => rfl
  | (n, k) :: r, acc, h => by
    have ih := closure_go (env := env) r
    rw [List.forIn_cons]
    cases hk : k == NameKind.free with
    | false =>
      simp only [hk, Bool.false_eq_true, if_false, pure_bind, closOf]
      exact ih acc fun m hm => h m (List.mem_cons_of_mem _ hm)
    | true =>
      have hk' : k = .free := by simpa using hk
      subst hk'
      have hc := h n List.mem_cons_self
      obtain ⟨c, hc⟩ := Option.isSome_iff_exists.mp hc
      have e : cellOf env n = pure c := by unfold cellOf; rw [hc]
      simp only [e, beq_self_eq_true, if_true, pure_bind, closOf, hc, Option.getD_some]
      exact ih _ fun m hm => h m (List.mem_cons_of_mem _ hm)
theorem closureFor_eq {env : Env} {scope : Scope} (h : ∀ n, (n, NameKind.free) ∈ scope.names → (env.cells.lookup n).isSome = true) : closureFor scope env = pure (closOf env scope.names []) := by
  have := closure_go (env := env) scope.names [] h
  unfold closureFor
  simp only [bind_pure]
  exact this
theorem closOf_lookup {env : Env} {n : Str} : ∀ (names : List (Str × NameKind)) (acc : List (Str × Addr)), ((n, NameKind.free) ∈ names → (env.cells.lookup n).isSome = true) →
    (closOf env names acc).lookup n = if (n, NameKind.free) ∈ names then env.cells.lookup n else acc.lookup n
  | [], acc, _ => by simp [closOf]
  | (m, k) :: r, acc, h => by
    unfold closOf
    cases hk : k == NameKind.free with
    | false =>
      simp only [Bool.false_eq_true, if_false]
      rw [closOf_lookup r acc fun hm => h (List.mem_cons_of_mem _ hm)]
      have : k ≠ .free := by simpa using hk
      have e : ((n, NameKind.free) ∈ (m, k) :: r) ↔ ((n, NameKind.free) ∈ r) := by
        simp only [List.mem_cons, Prod.mk.injEq]
        exact ⟨fun q => q.resolve_left fun q => this q.2.symm, .inr⟩
      simp only [e]
    | true =>
      have hk' : k = .free := by simpa using hk
      subst hk'
      simp only [if_true]
      rw [closOf_lookup r _ fun hm => h (List.mem_cons_of_mem _ hm)]
      by_cases hr : (n, NameKind.free) ∈ r
      · simp [hr]
      · rw [if_neg hr, List.lookup_cons]
        by_cases hnm : n = m
        · subst hnm
          obtain ⟨c, hc⟩ := Option.isSome_iff_exists.mp (h List.mem_cons_self)
          simp [hc]
        · have hb : (n == m) = false := by simpa using hnm
          simp only [hb, List.mem_cons, Prod.mk.injEq, hnm, false_and, hr, or_self, if_false]
theorem cellsFrom_lookup_not {n : Str} : ∀ (names : List (Str × NameKind)) (j : Nat) (acc : List (Str × Addr)), (n, NameKind.cell) ∉ names → (cellsFrom j names acc).lookup n = acc.lookup n
  | [], _, _, _ => rfl
  | (m, k) :: r, j, acc, h => by
    unfold cellsFrom
    have hr : (n, NameKind.cell) ∉ r := fun q => h (List.mem_cons_of_mem _ q)
    split
    · rename_i hk
      have hk' : k = .cell := by simpa using hk
      subst hk'
      rw [cellsFrom_lookup_not r _ _ hr, List.lookup_cons]
      have hb : (n == m) = false := by
        simp only [beq_eq_false_iff_ne]; rintro rfl; exact h List.mem_cons_self
      rw [hb]
    · exact cellsFrom_lookup_not r _ _ hr
theorem cellsFrom_lookup_in {n : Str} : ∀ (names : List (Str × NameKind)) (j : Nat) (acc : List (Str × Addr)), (n, NameKind.cell) ∈ names ∨ (acc.lookup n).isSome = true → ((cellsFrom j names acc).lookup n).isSome = true
  | [], _, _, h => h.elim (fun q => (nomatch q)) id
  | (m, k) :: r, j, acc, h => by
    unfold cellsFrom
    split
    · rename_i hk
      have hk' : k = .cell := by simpa using hk
      subst hk'
      refine cellsFrom_lookup_in r _ _ ?_
      by_cases hnm : n = m
      · subst hnm; right; simp
      · rcases h with h | h
        · left
          rcases List.mem_cons.mp h with q | q
          · exact absurd (Prod.mk.inj q).1 hnm
          · exact q
        · right
          have hb : (n == m) = false := by simpa using hnm
          simp [List.lookup_cons, hb, h]
    · rename_i hk
      refine cellsFrom_lookup_in r _ _ (h.imp (fun h => ?_) id)
      rcases List.mem_cons.mp h with q | q
      · exact absurd (by rw [← (Prod.mk.inj q).2]; rfl) hk
      · exact q
theorem mem_of_lookupK {n : Str} {x : NameKind} {l : List (Str × NameKind)} (h : l.lookup n = some x) : (n, x) ∈ l := mem_of_lookup h
theorem lookup_of_nodup {n : Str} {x : NameKind} : ∀ {l : List (Str × NameKind)}, (l.map (·.1)).Nodup → (n, x) ∈ l → l.lookup n = some x
  | (m, y) :: r, hd, h => by
    rw [List.map_cons, List.nodup_cons] at hd
    rcases List.mem_cons.mp h with e | hm
    · cases e; simp
    · have hb : (n == m) = false := by
        simp only [beq_eq_false_iff_ne]; rintro rfl
        exact hd.1 (List.mem_map.mpr ⟨_, hm, rfl⟩)
      rw [List.lookup_cons, hb]; exact lookup_of_nodup hd.2 hm
theorem relN_lookup {n : Str} {N : List (Str × NameKind)} : ∀ (names : List (Str × NameKind)), (relN names N).lookup n = (names.lookup n).map (relK N n)
  | [] => rfl
  | (m, k) :: r => by
    have ih := relN_lookup (n := n) (N := N) r
    unfold relN at ih ⊢
    rw [List.map_cons, List.lookup_cons, List.lookup_cons, ih]
    by_cases hnm : n = m
    · subst hnm; simp
    · have hb : (n == m) = false := by simpa using hnm
      simp [hb]
theorem relabel_names {env : Env} {scope : Scope} (P : EnvOk N env) : (relabel scope env).names = relN scope.names N := by
  unfold relabel relN
  apply List.map_congr_left
  rintro ⟨n, k⟩ _
  simp only [P.kind, beq_self_eq_true, Bool.and_true, Env.kindOf, P.names, relK]
  split <;> rfl

/-- what must be seen of a comprehension's scope -/
structure ScopeOk (N : List (Str × NameKind)) (scope : Scope) : Prop where
  kind : scope.kind = .function
  nodup : (scope.names.map (·.1)).Nodup
  free : ∀ n, (n, NameKind.free) ∈ scope.names → N.lookup n = some .cell ∨ N.lookup n = some .free
noncomputable def scopeOkB (N : List (Str × NameKind)) (scope : Scope) : Bool :=
  scope.kind == .function && decide ((scope.names.map (·.1)).Nodup) && scope.names.all fun x => x.2 != .free || N.lookup x.1 == some .cell || N.lookup x.1 == some .free
theorem scopeOk_of {scope : Scope} (h : scopeOkB N scope = true) : ScopeOk N scope := by
  unfold scopeOkB at h
  simp only [Bool.and_eq_true, beq_iff_eq, decide_eq_true_eq, List.all_eq_true, Bool.or_eq_true, bne_iff_ne] at h
  refine ⟨h.1.1, h.1.2, fun n hn => ?_⟩
  rcases h.2 _ hn with (q | q) | q
  · exact absurd rfl q
  · exact .inl q
  · exact .inr q
noncomputable def cenvOf (scope : Scope) (cs : List (Str × Addr)) (L : Addr) (env : Env) : Env :=
  { scope := relabel scope env, locals := L, globals := env.globals, cells := cs, qual := env.qual, func := none, code := env.code, frame := env.frame, builtins := env.builtins }
theorem cenv_ok {env : Env} {scope : Scope} {L : Addr} {j : Nat} (P : EnvOk N env) (S : ScopeOk N scope) : EnvOk (relN scope.names N) (cenvOf scope (cellsFrom j scope.names (closOf env scope.names [])) L env) where
  names := relabel_names P
  kind := S.kind
  globals := P.globals
  builtins := P.builtins
  cells := fun n hn => by
    have hf : ∀ n, (n, NameKind.free) ∈ scope.names → (env.cells.lookup n).isSome = true := fun n hm => P.cells n (S.free n hm)
    refine cellsFrom_lookup_in _ _ _ ?_
    rw [relN_lookup] at hn
    cases hl : scope.names.lookup n with
    | none => rw [hl] at hn; simp at hn
    | some q =>
      rw [hl] at hn
      simp only [Option.map_some, Option.some.injEq, relK] at hn
      have hm := mem_of_lookupK hl
      cases q with
      | cell => exact .inl hm
      | free =>
        right
        rw [closOf_lookup _ _ (hf n), if_pos hm]
        exact hf n hm
      | _ => simp at hn
/-- what a frame's names are within -/
noncomputable def inner {α : Type} (names : List (Str × NameKind)) (l : List (Str × α)) : List (Str × α) := l.filter fun p => names.lookup p.1 == some .free
theorem inner_lookup {α : Type} {names : List (Str × NameKind)} {x : Str} {d : α} : ∀ {l : List (Str × α)}, (inner names l).lookup x = some d → l.lookup x = some d ∧ names.lookup x = some .free
  | [], h => by simp [inner] at h
  | (m, e) :: r, h => by
    have ih := @inner_lookup α names x d r
    unfold inner at h ih
    rw [List.filter_cons] at h
    by_cases hx : x = m
    · subst hx
      cases hf : (names.lookup x == some NameKind.free) with
      | true => simp only [hf, if_true, List.lookup_cons, beq_self_eq_true] at h ⊢; exact ⟨h, by simpa using hf⟩
      | false =>
        simp only [hf, Bool.false_eq_true, if_false] at h
        have := (ih h).2
        rw [this] at hf; simp at hf
    · have hb : (x == m) = false := by simpa using hx
      rw [List.lookup_cons, hb]
      split at h
      · rw [List.lookup_cons, hb] at h; exact ih h
      · exact ih h
theorem holds_inner {env : Env} {scope : Scope} {L : Addr} {j : Nat} {h : Heap} {x : Str} {v : Value} (P : EnvOk N env) (S : ScopeOk N scope) (hx : scope.names.lookup x = some .free) (y : Holds env h x v) :
    Holds (cenvOf scope (cellsFrom j scope.names (closOf env scope.names [])) L env) h x v := by
  have hm := mem_of_lookupK hx
  have hf : ∀ n, (n, NameKind.free) ∈ scope.names → (env.cells.lookup n).isSome = true := fun n hm => P.cells n (S.free n hm)
  have hnc : (x, NameKind.cell) ∉ scope.names := fun q => by have := lookup_of_nodup S.nodup q; rw [hx] at this; cases this
  have hk : env.kindOf x = N.lookup x := by unfold Env.kindOf; rw [P.names]
  have hl : (cellsFrom j scope.names (closOf env scope.names [])).lookup x = env.cells.lookup x := by rw [cellsFrom_lookup_not _ _ _ hnc, closOf_lookup _ _ (hf x), if_pos hm]
  rcases y with ⟨e, _⟩ | ⟨e, c, hc, hi⟩
  · rw [hk] at e; rcases S.free x hm with q | q <;> rw [q] at e <;> cases e
  · refine .inr ⟨?_, c, by show (cellsFrom j scope.names (closOf env scope.names [])).lookup x = some c; rw [hl]; exact hc, hi⟩
    have e2 : (cenvOf scope (cellsFrom j scope.names (closOf env scope.names [])) L env).kindOf x = (relN scope.names N).lookup x := by unfold Env.kindOf; rw [(cenv_ok (L := L) (j := j) P S).names]
    rw [e2, relN_lookup, hx]
    simp only [Option.map_some, relK]
    split
    · exact .inl rfl
    · exact .inr rfl

/-! the comprehension's loop -/
noncomputable def Tgt (env : Env) (h : Heap) (x : Str) (tx : Addr) : Prop :=
  (env.kindOf x = some .local ∧ tx = env.locals) ∨ (env.kindOf x = some .cell ∧ env.cells.lookup x = some tx ∧ (∃ v, h.IsCell tx v) ∧ tx ≠ env.locals)
theorem Tgt.move {env : Env} {h h' : Heap} {x : Str} {tx : Addr} (y : Tgt env h x tx) (k : ∀ o, h.get? tx = some o → h'.get? tx = some o) : Tgt env h' x tx := by
  rcases y with y | ⟨a, b, ⟨v, o, ho, hd⟩, c⟩
  · exact .inl y
  · exact .inr ⟨a, b, ⟨v, o, k _ ho, hd⟩, c⟩
theorem store_any {A : Around} {env : Env} {s : Shared} {x : Str} {px : Pos} {v : Value} {tx : Addr} {m : Str → Option Value} {E : Value → Shared → Prop} {Q : Unit → Shared → Prop} (hk : env.scope.kind = .function) (hn : s.heap.Ns env.locals m) (ht : Tgt env s.heap x tx)
    (h : ∀ h' tk m', Holds env h' x v → h'.Ns env.locals m' → Tgt env h' x tx → Heap.SameBut tx s.heap h' → Q () { s with heap := h', toks := tk }) : wpAny C.M A (assign (.Name x px) env v) Q E s := by
  rcases ht with ⟨e, rfl⟩ | ⟨e, hc, ⟨v₀, hi⟩, hne⟩
  · refine wpAny_assign_Name (wpAny_storeName_local e hn (fun h' hn' hs => h h' _ _ (.inl ⟨e, _, hn', by simp⟩) hn' (.inl ⟨e, rfl⟩) hs) (by rw [hk]; rfl))
  · refine wpAny_assign_Name (wpAny_storeName_cell hk e hc hi fun h' hi' hs => h h' s.toks m (.inr ⟨.inl e, tx, hc, hi'⟩) (hn.sameBut hs (Ne.symm hne)) (.inr ⟨e, hc, ⟨_, hi'⟩, hne⟩) hs)
theorem newEnv_comp {M : Model} {A : Around} {E : Value → Shared → Prop} {s : Shared} {scope : Scope} {g : Addr} {cl : List (Str × Addr)} {q : Str} {env : Env} {Q : Env → Shared → Prop}
    (h : Q { scope, locals := s.heap.objs.size, globals := g, cells := cellsFrom (s.heap.objs.size + 1) scope.names cl, qual := q, func := none, code := env.code, frame := env.frame, builtins := env.builtins }
      { s with heap := pushCells (s.heap.push { cls := .type "dict", data := .dict #[] }) scope.names }) :
    wpAny M A (newFunctionEnv scope g cl [] q none .none (some env)) Q E s := by
  simp only [newFunctionEnv, Option.isSome_some, if_true]
  refine wpAny_bind (wpAny_alloc ?_)
  refine wpAny_bind (wpAny_layCells _ (fun name kind cells => by cases hkc : kind == NameKind.cell <;> simp) _ _ _ _ ?_)
  simp only [List.forIn_nil]
  refine wpAny_bind (wpAny_pure (wpAny_pure ?_))
  rw [show ({ s with heap := s.heap.push { cls := .type "dict", data := .dict #[] } } : Shared).heap.objs.size = s.heap.objs.size + 1 from Heap.size_push ..]
  exact h
/-- the tests of a clause -/
inductive Ts (C : Cx) (N : List (Str × NameKind)) (ρ : List (Str × D)) (μ : List (Str × List D)) (k : Nat) : List Expr → Bool → Prop
  | nil : Ts C N ρ μ k [] true
  | one {c : Expr} {b : Bool} : Tx C N ρ μ k c b → Ts C N ρ μ k [c] b
theorem Ts.run {ifs : List Expr} {b : Bool} (h : Ts C N ρ μ k ifs b) {env : Env} {ok : Addr → Prop} {A : Around} {s : Shared} (P : Pre C N ρ μ k env ok A s) {E : Value → Shared → Prop} :
    wpAny C.M A (forIn ifs true fun c r => if r = true then do let ok ← isTrue c env (eval c env); pure (ForInStep.yield ok) else pure (ForInStep.yield r)) (fun r s' => Ks s s' ∧ r = b) E s := by
  cases h with
  | nil => exact wpAny_tests_nil ⟨Ks.refl s, rfl⟩
  | one h => exact wpAny_tests_one (wpAny_mono (h env ok A s P) (fun r s' x => x) fun _ _ e => e.elim)

theorem keepOn_sameBut {ok : Addr → Prop} {b : Addr} {h h' : Heap} (hs : Heap.SameBut b h h') (hb : ¬ ok b) : KeepOn ok h h' := fun c o hc e => hs.extBut c o (fun q => hb (q ▸ hc)) e
theorem filter_take_succ {α β : Type} (p : α → Bool) (f : α → β) (l : List α) (i : Nat) (v : α) (h : l[i]? = some v) : ((l.take (i + 1)).filter p).map f = ((l.take i).filter p).map f ++ (if p v then [f v] else []) := by
  rw [List.take_add_one, h, List.filter_append, List.map_append]
  cases hp : p v <;> simp [hp]
/-- an expression that comes out as d; and, if asked, as a new object -/
noncomputable def ExZ (C : Cx) (N : List (Str × NameKind)) (ρ : List (Str × D)) (μ : List (Str × List D)) (k : Nat) (fl : Bool) (e : Expr) (d : D) : Prop :=
  ∀ env ok A s, Pre C N ρ μ k env ok A s → wpAny C.M A (eval e env) (fun v s' => Ks s s' ∧ Den ok s'.heap d v ∧ (fl = true → ∃ a, v = .ref a ∧ s.heap.get? a = none)) nox s
theorem ExZ.of {e : Expr} {d : D} (h : Ex C N ρ μ k e d) : ExZ C N ρ μ k false e d := fun env ok A s P => wpAny_mono (h env ok A s P) (fun v s' x => ⟨x.1, x.2, fun q => by cases q⟩) fun _ _ e => e
theorem ExZ.new {e : Expr} {xs : List D} (h : Fx C N ρ μ k e xs) : ExZ C N ρ μ k true e (.list xs) := fun env ok A s P => wpAny_mono (h.2 env ok A s P) (fun v s' x => by
  obtain ⟨x, a, items, rfl, hn, hl, hd⟩ := x
  refine ⟨x, ?_, fun _ => ⟨a, rfl, hn⟩⟩
  simp only [Den]
  exact ⟨a, items, rfl, P.new a hn, hl.isList, hd.flat h.1⟩) fun _ _ e => e
noncomputable def Apart (vs : List Value) : Prop := ∀ (i j : Nat) b, vs[i]? = some (.ref b) → vs[j]? = some (.ref b) → i = j
theorem Den.live {ok : Addr → Prop} {h : Heap} {d : D} {b : Addr} (x : Den ok h d (.ref b)) : (h.get? b).isSome = true := by
  cases d <;> simp only [Den] at x
  · cases x
  · cases x
  · obtain ⟨t, e⟩ := x; cases e
  · obtain ⟨t, e⟩ := x; cases e
  · obtain ⟨a, its, e, _, ⟨o, ho, _⟩, _⟩ := x; cases e; rw [ho]; rfl
  · obtain ⟨a, its, e, _, ⟨o, ho, _⟩, _⟩ := x; cases e; rw [ho]; rfl
  · obtain ⟨a, e, hw⟩ := x
    cases e
    obtain ⟨dA, m, o, _, _, h1, _⟩ := hw.at_
    rw [h1]; rfl
  · obtain ⟨e, _, _, o, m, h1, _⟩ := x; cases e; rw [h1]; rfl
theorem DenL.live {ok : Addr → Prop} {h : Heap} {b : Addr} : ∀ {ds : List D} {vs : List Value} {i : Nat}, DenL ok h ds vs → vs[i]? = some (.ref b) → (h.get? b).isSome = true
  | [], _, _, x, e => by simp only [DenL] at x; subst x; simp at e
  | d :: ds, _, i, x, e => by
    simp only [DenL] at x
    obtain ⟨v, vs', rfl, y, z⟩ := x
    cases i with
    | zero => simp at e; subst e; exact y.live
    | succ i => simp at e; exact DenL.live z e
theorem Apart.snoc {vs : List Value} {a : Addr} (x : Apart vs) (h : ∀ i : Nat, vs[i]? ≠ some (Value.ref a)) : Apart (vs ++ [Value.ref a]) := by
  intro i j b e1 e2
  have key : ∀ i : Nat, (vs ++ [Value.ref a])[i]? = some (.ref b) → (i < vs.length ∧ vs[i]? = some (.ref b)) ∨ (i = vs.length ∧ b = a) := fun i e => by
    by_cases q : i < vs.length
    · rw [List.getElem?_append_left q] at e; exact .inl ⟨q, e⟩
    · rw [List.getElem?_append_right (by lia)] at e
      have : i - vs.length = 0 := by
        cases hh : i - vs.length with
        | zero => rfl
        | succ n => rw [hh] at e; simp at e
      rw [this] at e; simp at e
      exact .inr ⟨by lia, e.symm⟩
  rcases key i e1 with ⟨q1, q2⟩ | ⟨q1, q2⟩ <;> rcases key j e2 with ⟨r1, r2⟩ | ⟨r1, r2⟩
  · exact x i j b q2 r2
  · subst r2; exact (h i q2).elim
  · subst q2; exact (h j r2).elim
  · lia
theorem comp_loop {env : Env} {ok : Addr → Prop} {A : Around} {s : Shared} (P : Pre C N ρ μ k env ok A s) {scope : Scope} (S : ScopeOk N scope) {x : Str} {px pos : Pos} {elt iter : Expr} {ifs : List Expr} {ds : List D}
    (flat : ∀ d ∈ ds, Flat d) (size : ds.length ≤ sizeLine) (p : D → Bool) (f : D → D)
    (ht : ∀ d ∈ ds, Ts C (relN scope.names N) ((x, d) :: inner scope.names ρ) (inner scope.names μ) k ifs (p d))
    {fl : Bool} (he : ∀ d ∈ ds, p d = true → ExZ C (relN scope.names N) ((x, d) :: inner scope.names ρ) (inner scope.names μ) k fl elt (f d))
    {I Da L tx : Addr} {fp wr : List Addr} {Pv : Nat → Value → Prop} {St : Nat → Heap → Prop} {j : Nat} (W : Walks C.prog C.w A I fp wr ds.length Pv St)
    (hv : ∀ i v, i < ds.length → Pv i v → ∃ d, ds[i]? = some d ∧ Den T s.heap d v) (live : ∀ i h, St i h → ∀ b ∈ wr, (h.get? b).isSome = true)
    (hwr : ∀ b ∈ wr, s.heap.get? b = none) (hD : s.heap.get? Da = none) (hL : s.heap.get? L = none) (htx : s.heap.get? tx = none) (hDL : Da ≠ L) (hDt : Da ≠ tx) (hDf : Da ∉ fp) (hLf : L ∉ fp) (htf : tx ∉ fp)
    {cenv : Env} (hcenv : cenv = cenvOf scope (cellsFrom j scope.names (closOf env scope.names [])) L env)
    {R : Result → Shared → Prop} {s₁ : Shared} (hs₁ : Ks s s₁) (st : St 0 s₁.heap) (hl : s₁.heap.PlainList Da #[]) {m : Str → Option Value} (hn : s₁.heap.Ns L m) (hT : Tgt cenv s₁.heap x tx)
    (hR : ∀ s' m' ys, Ks s s' → s'.heap.Ns L m' → s'.heap.PlainList Da ys → DenL (fun a => ok a ∧ a ≠ Da ∧ a ≠ L) s'.heap ((ds.filter p).map f) ys.toList → (fl = true → Apart ys.toList) → R (.ok .next) s') :
    codeAny C.M A (.compLoop (.ListComp elt [⟨.Name x px, iter, ifs, 0⟩] scope pos) 0 (.ref I) (.ref Da) cenv) R s₁ := by
  have eok : EnvOk (relN scope.names N) cenv := hcenv ▸ cenv_ok P.eok S
  have hloc : cenv.locals = L := by rw [hcenv]; rfl
  have hkind : cenv.scope.kind = .function := eok.kind
  let ok1 : Addr → Prop := fun a => ok a ∧ a ∉ wr ∧ a ≠ Da ∧ a ≠ L ∧ a ≠ tx
  have hDw : Da ∉ wr := fun q => hDf (W.sub _ q)
  have hLw : L ∉ wr := fun q => hLf (W.sub _ q)
  have htw : tx ∉ wr := fun q => htf (W.sub _ q)
  have old1 : ∀ a, ok a → (s.heap.get? a).isSome = true → ok1 a := fun a ha hs => ⟨ha, (fun q => by rw [hwr _ q] at hs; cases hs), (fun q => by rw [q, hD] at hs; cases hs), (fun q => by rw [q, hL] at hs; cases hs), (fun q => by rw [q, htx] at hs; cases hs)⟩
  refine codeAny_compLoop_tests (fun n s' => ∃ i ys m', And9 (Ks s s') (St i s'.heap) (s'.heap.PlainList Da ys) (s'.heap.Ns L m') (Tgt cenv s'.heap x tx) (i ≤ ds.length) (n = ds.length + 1 - i) (DenL ok1 s'.heap (((ds.take i).filter p).map f) ys.toList) ((fl = true → Apart ys.toList))) ?_ (ds.length + 1)
    ⟨0, #[], m, hs₁, st, hl, hn, hT, Nat.zero_le _, rfl, by simp only [List.take_zero, List.filter_nil, List.map_nil, DenL], fun _ i j b e => by simp at e⟩
  rintro n s' ⟨i, ys, m', hk, st', hl', hn', hT', hi, rfl, hd', hap⟩
  by_cases hlt : i < ds.length
  · refine W.item i _ _ _ hlt st' fun v h₁ tk₁ hPv st₁ hk₁ => ?_
    obtain ⟨d, hd, hdv⟩ := hv i v hlt hPv
    have hdm : d ∈ ds := List.mem_of_getElem? hd
    have hdv : ∀ ok' h', Den ok' h' d v := fun ok' h' => hdv.flat (flat d hdm)
    -- the heap behind the draw
    have K1 : Keep s.heap h₁ := fun b o e => hk₁ b o (fun q => by rw [hwr _ q] at e; cases e) (hk.keep b o e)
    have n1 : h₁.Ns cenv.locals m' := by rw [hloc]; exact Ns.onto hn' fun o e => hk₁ _ o hLw e
    have t1 : Tgt cenv h₁ x tx := hT'.move fun o e => hk₁ _ o htw e
    refine store_any (C := C) hkind n1 t1 fun h₂ tk₂ m₂ hx₂ n₂ t₂ hs₂ => ?_
    rw [hloc] at n₂
    have K2 : Keep s.heap h₂ := fun b o e => hs₂.extBut b o (fun q => by rw [q, htx] at e; cases e) (K1 b o e)
    have st₂ : St (i + 1) h₂ := W.frame _ _ _ st₁ fun b hb o e => hs₂.extBut b o (fun q => htf (q ▸ hb)) e
    have l₂ : h₂.PlainList Da ys := hl'.at fun o e => hs₂.extBut _ o hDt (hk₁ _ o hDw e)
    have d₂ : DenL ok1 h₂ (((ds.take i).filter p).map f) ys.toList := (hd'.move fun b o hb e => hk₁ b o hb.2.1 e).move (keepOn_sameBut hs₂ fun q => q.2.2.2.2 rfl)
    have Ks2 : Ks s { s' with heap := h₂, toks := tk₂ } := by
      obtain ⟨h', tk, rfl, _⟩ := hk
      exact ⟨h₂, tk₂, rfl, K2⟩
    have P2 : Pre C (relN scope.names N) ((x, d) :: inner scope.names ρ) (inner scope.names μ) k cenv ok1 A { s' with heap := h₂, toks := tk₂ } := by
      refine ⟨eok, P.rm, P.base.keeps K2, ⟨fun y d' e => ?_, fun y xs e => ?_⟩, fun a ha => ⟨P.new a (none_keep K2 ha), fun q => ?_, fun q => ?_, fun q => ?_, fun q => ?_⟩⟩
      · by_cases hy : y = x
        · subst hy; simp only [List.lookup_cons, beq_self_eq_true, Option.some.injEq] at e; subst e; exact ⟨v, hx₂, hdv _ _⟩
        · have hb : (y == x) = false := by simpa using hy
          rw [List.lookup_cons, hb] at e
          obtain ⟨e1, e2⟩ := inner_lookup e
          obtain ⟨u, hu, hud⟩ := P.sim.imm y d' e1
          exact ⟨u, hcenv ▸ (holds_inner P.eok S e2 hu).keeps K2, (hud.okMono old1).keeps K2⟩
      · obtain ⟨e1, e2⟩ := inner_lookup e
        obtain ⟨a, items, hu, ⟨o, ho, hr⟩, hud⟩ := P.sim.tur y xs e1
        exact ⟨a, items, hcenv ▸ (holds_inner P.eok S e2 hu).keeps K2, ⟨o, K2 _ _ ho, hr⟩, hud.keeps K2⟩
      · have := live _ _ st₂ _ q; rw [ha] at this; cases this
      · obtain ⟨nn, e⟩ := l₂; rw [q, e] at ha; cases ha
      · obtain ⟨o, _, _, e, _⟩ := n₂; rw [q, e] at ha; cases ha
      · rcases t₂ with ⟨_, e⟩ | ⟨_, _, ⟨_, o, e, _⟩, _⟩
        · rw [e, hloc] at q; obtain ⟨o, _, _, e, _⟩ := n₂; rw [q, e] at ha; cases ha
        · rw [q, e] at ha; cases ha
    refine wpAny_mono ((ht d hdm).run P2) (fun okb s₃ y => ?_) fun _ _ e => e
    obtain ⟨k3, rfl⟩ := y
    have P3 := P2.keeps k3
    have st₃ : St (i + 1) s₃.heap := W.frame _ _ _ st₂ fun b _ o e => k3.keep b o e
    have l₃ : s₃.heap.PlainList Da ys := l₂.at fun o e => k3.keep _ o e
    have n₃ : s₃.heap.Ns L m₂ := n₂.keeps k3.keep
    have t₃ : Tgt cenv s₃.heap x tx := t₂.move fun o e => k3.keep _ o e
    have d₃ := d₂.keeps k3.keep
    cases hp : p d with
    | false =>
      simp only [Bool.false_eq_true, if_false]
      refine ⟨ds.length + 1 - (i + 1), by lia, i + 1, ys, m₂, Ks2.trans k3, st₃, l₃, n₃, t₃, hlt, rfl, ?_, hap⟩
      rw [filter_take_succ p f ds i d hd, hp]; simpa using d₃
    | true =>
      simp only [if_true]
      refine wpAny_mono (he d hdm hp cenv ok1 A s₃ P3) (fun y s₄ z => ?_) fun _ _ e => e.elim
      have l₄ : s₄.heap.PlainList Da ys := l₃.at fun o e => z.1.keep _ o e
      have hsz : ys.size ≤ sizeLine := by
        have e1 := d₃.length
        have e2 : (((ds.take i).filter p).map f).length ≤ ds.length := by
          rw [List.length_map]; exact Nat.le_trans (List.length_filter_le _ _) (by rw [List.length_take]; lia)
        have e3 : ys.toList.length = ys.size := Array.length_toList
        lia
      refine wpAny_list_append_plain (hsz := hsz) l₄ fun h₅ hl₅ hs₅ => ?_
      have hDs : s₄.heap.get? Da ≠ none := by obtain ⟨nn, e⟩ := l₄; rw [e]; exact fun q => by cases q
      refine ⟨ds.length + 1 - (i + 1), by lia, i + 1, ys.push y, m₂, ?_, ?_, hl₅, (n₃.keeps z.1.keep).sameBut hs₅ (Ne.symm hDL), (t₃.move fun o e => z.1.keep _ o e).move fun o e => hs₅.extBut _ o (Ne.symm hDt) e, hlt, rfl, ?_, fun hfl => ?_⟩
      · obtain ⟨h', tk, rfl, kk⟩ := (Ks2.trans k3).trans z.1
        exact ⟨h₅, tk, rfl, fun b o e => hs₅.extBut b o (fun q => by rw [q, hD] at e; cases e) (kk b o e)⟩
      · exact W.frame _ _ _ (W.frame _ _ _ st₃ fun b _ o e => z.1.keep b o e) fun b hb o e => hs₅.extBut b o (fun q => hDf (q ▸ hb)) e
      · rw [filter_take_succ p f ds i d hd, hp, Array.toList_push]
        exact ((d₃.keeps z.1.keep).snoc z.2.1).move (keepOn_sameBut hs₅ fun q => q.2.2.1 rfl)
      · obtain ⟨a, rfl, ha⟩ := z.2.2 hfl
        rw [Array.toList_push]
        exact Apart.snoc (hap hfl) fun j e => by have := d₃.live e; rw [ha] at this; cases this
  · have hin : i = ds.length := by lia
    subst hin
    refine W.done _ _ _ st' fun h₁ tk₁ hk₁ => ?_
    obtain ⟨h', tk, rfl, kk⟩ := hk
    refine hR _ m' ys ⟨h₁, tk₁, rfl, fun b o e => hk₁ b o (fun q => by rw [hwr _ q] at e; cases e) (kk b o e)⟩ (Ns.onto hn' fun o e => hk₁ _ o hLw e) (hl'.at fun o e => hk₁ _ o hDw e) ?_ hap
    rw [List.take_length] at hd'
    exact (hd'.move fun b o hb e => hk₁ b o hb.2.1 e).okMono fun a ha _ => ⟨ha.1, ha.2.2.1, ha.2.2.2.1⟩
end Mine
end

/-! Calc6 -/
section
namespace Mine
variable {C : Cx} {N : List (Str × NameKind)} {ρ : List (Str × D)} {μ : List (Str × List D)} {k : Nat}

theorem cellsFrom_has {x : Str} : ∀ (names : List (Str × NameKind)) (h : Heap) (acc : List (Str × Addr)), (names.map (·.1)).Nodup → (x, NameKind.cell) ∈ names →
    ∃ c, (cellsFrom h.objs.size names acc).lookup x = some c ∧ h.objs.size ≤ c ∧ (pushCells h names).IsCell c none
  | (m, kk) :: r, h, acc, hd, hm => by
    rw [List.map_cons, List.nodup_cons] at hd
    unfold cellsFrom pushCells
    by_cases hk : kk = .cell
    · subst hk
      simp only [beq_self_eq_true, if_true]
      by_cases hx : x = m
      · subst hx
        have hr : (x, NameKind.cell) ∉ r := fun q => hd.1 (List.mem_map.mpr ⟨_, q, rfl⟩)
        refine ⟨h.objs.size, ?_, Nat.le_refl _, ?_⟩
        · rw [cellsFrom_lookup_not _ _ _ hr]; simp
        · exact ⟨_, pushCells_keeps _ _ _ _ (Heap.get?_push_size _ rfl), rfl⟩
      · have hr : (x, NameKind.cell) ∈ r := by
          rcases List.mem_cons.mp hm with q | q
          · exact absurd (Prod.mk.inj q).1 hx
          · exact q
        obtain ⟨c, h1, h2, h3⟩ := cellsFrom_has r (h.push { cls := .type "cell", data := .cell none }) ((m, h.objs.size) :: acc) hd.2 hr
        rw [Heap.size_push] at h1 h2
        exact ⟨c, h1, Nat.le_of_succ_le h2, h3⟩
    · have hb : (kk == NameKind.cell) = false := by simpa using hk
      simp only [hb, Bool.false_eq_true, if_false]
      have hr : (x, NameKind.cell) ∈ r := by
        rcases List.mem_cons.mp hm with q | q
        · exact absurd (Prod.mk.inj q).2.symm hk
        · exact q
      exact cellsFrom_has r h acc hd.2 hr

theorem comp_run {env : Env} {ok : Addr → Prop} {A : Around} {s : Shared} (P : Pre C N ρ μ k env ok A s) {scope : Scope} (S : ScopeOk N scope) {x : Str} {px pos : Pos} {elt iter : Expr} {ifs : List Expr} {ds : List D}
    (hx : scope.names.lookup x = some .local ∨ scope.names.lookup x = some .cell) (ix : Ixw C N ρ μ k iter ds) (p : D → Bool) (f : D → D)
    (ht : ∀ d ∈ ds, Ts C (relN scope.names N) ((x, d) :: inner scope.names ρ) (inner scope.names μ) k ifs (p d))
    {fl : Bool} (he : ∀ d ∈ ds, p d = true → ExZ C (relN scope.names N) ((x, d) :: inner scope.names ρ) (inner scope.names μ) k fl elt (f d))
    {RR : Value → Addr → Result → Shared → Prop}
    (hRR : ∀ Da L s' m' ys, s.heap.get? Da = none → s.heap.get? L = none → Da ≠ L → Ks s s' → s'.heap.Ns L m' → s'.heap.PlainList Da ys → DenL (fun a => ok a ∧ a ≠ Da ∧ a ≠ L) s'.heap ((ds.filter p).map f) ys.toList → (fl = true → Apart ys.toList) → RR (.ref Da) L (.ok .next) s') :
    wpAny C.M A (eval iter env) (fun xv s₁ => wpAny C.M A (pyIter xv) (fun it s₂ => wpAny C.M A (newList []) (fun acc s₃ =>
      wpAny C.M A (newFunctionEnv scope env.globals (closOf env scope.names []) [] env.qual none .none (some env)) (fun cenv s₄ =>
        codeAny C.M A (.compStart (.ListComp elt [⟨.Name x px, iter, ifs, 0⟩] scope pos) 0 it acc { cenv with scope := relabel scope env }) (RR acc cenv.locals) s₄) nox s₃) nox s₂) nox s₁) nox s := by
  refine wpAny_mono (ix.run env ok A s P) (fun xv s₁ h₁ => wpAny_mono h₁ (fun it s₂ h₂ => ?_) fun _ _ e => e) fun _ _ e => e
  obtain ⟨K2, I, fp, wr, Pv, St, rfl, W, st, hfp, _, hwr, hv, live⟩ := h₂
  refine wpAny_newObj_type (newEnv_comp ?_)
  dsimp only
  generalize hH3 : s₂.heap.push { cls := .type "list", dict := none, data := .seq ([] : List Value).toArray } = H3
  have hL : H3.objs.size = s₂.heap.objs.size + 1 := by rw [← hH3, Heap.size_push]
  generalize hH4 : H3.push { cls := .type "dict", data := .dict #[] } = H4
  have h4 : H4.objs.size = H3.objs.size + 1 := by rw [← hH4, Heap.size_push]
  have K4 : Keep s₂.heap (pushCells H4 scope.names) := fun b o e => pushCells_keeps _ _ _ _ (hH4 ▸ Heap.get?_push_of_some _ (hH3 ▸ Heap.get?_push_of_some _ e))
  have hDa : (pushCells H4 scope.names).PlainList s₂.heap.objs.size #[] := ⟨0, pushCells_keeps _ _ _ _ (hH4 ▸ Heap.get?_push_of_some _ (hH3 ▸ Heap.get?_push_size _ rfl))⟩
  have hNs : (pushCells H4 scope.names).Ns H3.objs.size fun _ => none := (hH4 ▸ Heap.Ns.new H3 (.type "dict")).keeps (pushCells_keeps _ _)
  have fresh : ∀ a, s₂.heap.objs.size ≤ a → s.heap.get? a = none := fun a ha => none_keep K2.keep (by
    cases e : s₂.heap.get? a with
    | none => rfl
    | some o => exact absurd (Heap.lt_size e) (Nat.not_lt.mpr ha))
  have nofp : ∀ a, s₂.heap.objs.size ≤ a → a ∉ fp := fun a ha hm => absurd (hfp a hm) (Nat.not_lt.mpr ha)
  have hDL : s₂.heap.objs.size ≠ H3.objs.size := by rw [hL]; exact Nat.ne_of_lt (Nat.lt_succ_self _)
  have hLe : s₂.heap.objs.size ≤ H3.objs.size := by rw [hL]; exact Nat.le_succ _
  have eqc : H3.objs.size + 1 = H4.objs.size := h4.symm
  rw [eqc]
  generalize hcenv : cenvOf scope (cellsFrom H4.objs.size scope.names (closOf env scope.names [])) H3.objs.size env = cenv
  have hce : EnvOk (relN scope.names N) cenv := hcenv ▸ cenv_ok P.eok S
  have hloc : cenv.locals = H3.objs.size := by rw [← hcenv]; rfl
  have hkx : cenv.kindOf x = (relN scope.names N).lookup x := by unfold Env.kindOf; rw [hce.names]
  have tgt : ∃ tx, Tgt cenv (pushCells H4 scope.names) x tx ∧ H3.objs.size ≤ tx := by
    rcases hx with hx | hx
    · refine ⟨H3.objs.size, .inl ⟨?_, hloc.symm⟩, Nat.le_refl _⟩
      rw [hkx, relN_lookup, hx]; rfl
    · obtain ⟨c, c1, c2, c3⟩ := cellsFrom_has scope.names H4 (closOf env scope.names []) S.nodup (mem_of_lookupK hx)
      rw [h4] at c2
      refine ⟨c, .inr ⟨?_, by rw [← hcenv]; exact c1, ⟨_, c3⟩, ?_⟩, Nat.le_of_succ_le c2⟩
      · rw [hkx, relN_lookup, hx]; rfl
      · rw [hloc]; exact Nat.ne_of_gt c2
  obtain ⟨tx, tT, tle⟩ := tgt
  have loop : ∀ s₄ : Shared, s₄ = { s₂ with heap := pushCells H4 scope.names } → codeAny C.M A (.compLoop (.ListComp elt [⟨.Name x px, iter, ifs, 0⟩] scope pos) 0 (.ref I) (.ref s₂.heap.objs.size) cenv) (RR (.ref s₂.heap.objs.size) H3.objs.size) s₄ := by
    rintro s₄ rfl
    have K24 : Ks s₂ { s₂ with heap := pushCells H4 scope.names } := ⟨_, s₂.toks, rfl, K4⟩
    refine comp_loop P S ix.flat ix.size p f ht he W (fun i v hi hP => ?_) (fun i h st b hb => live i h st b (W.sub b hb)) hwr (fresh _ (Nat.le_refl _)) (fresh _ hLe) (fresh _ (Nat.le_trans hLe tle)) hDL (Nat.ne_of_lt (Nat.lt_of_lt_of_le (by rw [hL]; exact Nat.lt_succ_self _) tle))
      (nofp _ (Nat.le_refl _)) (nofp _ hLe) (nofp _ (Nat.le_trans hLe tle)) hcenv.symm (K2.trans K24) (W.frame _ _ _ st fun b _ o e => K4 b o e) hDa hNs tT fun s' m' ys a b c d e => hRR _ _ s' m' ys (fresh _ (Nat.le_refl _)) (fresh _ hLe) hDL a b c d e
    obtain ⟨d, e1, e2⟩ := hv i v hi hP
    exact ⟨d, e1, e2.flat (ix.flat d (List.mem_of_getElem? e1))⟩
  have ec : ({ scope := relabel scope env, locals := H3.objs.size, globals := env.globals, cells := cellsFrom H4.objs.size scope.names (closOf env scope.names []), qual := env.qual, func := none, code := env.code, frame := env.frame, builtins := env.builtins } : Env) = cenv := hcenv
  show codeAny C.M A (.compStart _ 0 (.ref I) (.ref s₂.heap.objs.size) ({ scope := relabel scope env, locals := H3.objs.size, globals := env.globals, cells := cellsFrom H4.objs.size scope.names (closOf env scope.names []), qual := env.qual, func := none, code := env.code, frame := env.frame, builtins := env.builtins } : Env)) _ _
  rw [ec]
  exact codeAny_compStart_list (loop _ rfl) (W.self 0 _ _ _ (W.frame _ _ _ st fun b _ o e => K4 b o e) (loop _ rfl))

theorem names_ok {scope : Scope} (S : ScopeOk N scope) : ∀ x ∈ scope.names, x.2 = .local → scope.names.lookup x.1 = some .local := fun x hx h => by
  obtain ⟨n, kk⟩ := x
  dsimp only at h
  subst h
  exact lookup_of_nodup S.nodup hx
theorem clos_ok {env : Env} {scope : Scope} (P : EnvOk N env) (S : ScopeOk N scope) : closureFor scope env = pure (closOf env scope.names []) := closureFor_eq fun n hm => P.cells n (S.free n hm)
theorem Ex.comp {scope : Scope} {x : Str} {px pos : Pos} {elt iter : Expr} {ifs : List Expr} {ds : List D} (p : D → Bool) (f : D → D) (ix : Ixw C N ρ μ k iter ds)
    (ht : ∀ d ∈ ds, Ts C (relN scope.names N) ((x, d) :: inner scope.names ρ) (inner scope.names μ) k ifs (p d))
    (he : ∀ d ∈ ds, p d = true → Ex C (relN scope.names N) ((x, d) :: inner scope.names ρ) (inner scope.names μ) k elt (f d))
    (hS : scopeOkB N scope = true := by rfl) (hx : scope.names.lookup x = some .local ∨ scope.names.lookup x = some .cell := by first | exact .inl rfl | exact .inr rfl) :
    Ex C N ρ μ k (.ListComp elt [⟨.Name x px, iter, ifs, 0⟩] scope pos) (.list ((ds.filter p).map f)) := by
  intro env ok A s P
  have S := scopeOk_of hS
  rw [eval_ListComp]
  refine wpAny_comprehension_free (use := Option.none) rfl (ix.plain env) (clos_ok P.eok S) S.kind (names_ok S) (comp_run P S hx ix p f ht (fun d hd hp => ExZ.of (he d hd hp)) (RR := fun acc L r s' => compPost C.M A nox Option.none _ acc L r s') ?_)
  intro Da L s' m' ys hD hL hDL hk hn hl hd _
  refine ⟨m', hn, fun h' hs => ⟨?_, ?_⟩⟩
  · obtain ⟨h₁, tk, rfl, kk⟩ := hk
    exact ⟨h', tk, rfl, fun b o e => hs.extBut b o (fun q => by rw [q, hL] at e; cases e) (kk b o e)⟩
  · simp only [Den]
    exact ⟨Da, ys, rfl, P.new _ hD, (hl.extBut hs.extBut hDL).isList, (hd.move (keepOn_sameBut hs fun q => q.2.2 rfl)).okMono fun a ha _ => ha.1⟩
/-- the plain case: no test -/
theorem Ex.comp1 {scope : Scope} {x : Str} {px pos : Pos} {elt iter : Expr} {ds : List D} (f : D → D) (ix : Ixw C N ρ μ k iter ds)
    (he : ∀ d ∈ ds, Ex C (relN scope.names N) ((x, d) :: inner scope.names ρ) (inner scope.names μ) k elt (f d))
    (hS : scopeOkB N scope = true := by rfl) (hx : scope.names.lookup x = some .local ∨ scope.names.lookup x = some .cell := by first | exact .inl rfl | exact .inr rfl) :
    Ex C N ρ μ k (.ListComp elt [⟨.Name x px, iter, [], 0⟩] scope pos) (.list (ds.map f)) := by
  have := Ex.comp (px := px) (pos := pos) (elt := elt) (iter := iter) (ifs := []) (fun _ => true) f ix (fun _ _ => .nil) (fun d hd _ => he d hd) hS hx
  rw [List.filter_eq_self.mpr (fun _ _ => rfl)] at this
  exact this
end Mine
end

/-! Calc7 -/
section
namespace Mine
variable {C : Cx} {N : List (Str × NameKind)} {ρ ρ' : List (Str × D)} {μ μ' : List (Str × List D)} {k : Nat}

/-! who may touch an address -/
inductive Lab where
  | fr
  | it
  | mu (x : Str)
noncomputable abbrev Ow := Addr → Option Lab
noncomputable def RowAt (ow : Ow) (x : Str) (a : Addr) (h : Heap) (d : D) (v : Value) : Prop :=
  (Flat d ∧ Den T h d v) ∨ (∃ b its ys, d = .list ys ∧ v = .ref b ∧ b ≠ a ∧ ow b = some (.mu x) ∧ h.IsList b its ∧ (∀ e ∈ ys, Flat e) ∧ DenL T h ys its.toList)
structure Rows (ow : Ow) (x : Str) (a : Addr) (h : Heap) (xs : List D) (vs : List Value) : Prop where
  len : xs.length = vs.length
  row : ∀ (i : Nat) d v, xs[i]? = some d → vs[i]? = some v → RowAt ow x a h d v
  apart : ∀ (i j : Nat) b, vs[i]? = some (.ref b) → vs[j]? = some (.ref b) → i = j
theorem RowAt.den {ow : Ow} {x : Str} {a : Addr} {h : Heap} {d : D} {v : Value} (y : RowAt ow x a h d v) : Den T h d v := by
  rcases y with y | ⟨b, its, ys, rfl, rfl, _, _, l, _, z⟩
  · exact y.2
  · simp only [Den]; exact ⟨b, its, rfl, trivial, l, z⟩
theorem RowAt.move {ow ow' : Ow} {x : Str} {a : Addr} {h h' : Heap} {d : D} {v : Value} (y : RowAt ow x a h d v) (k : ∀ b o, ow b = some (.mu x) → h.get? b = some o → ow' b = some (.mu x) ∧ h'.get? b = some o) : RowAt ow' x a h' d v := by
  rcases y with y | ⟨b, its, ys, e1, e2, hb, hw, l, f, z⟩
  · exact .inl ⟨y.1, y.2.flat y.1⟩
  · obtain ⟨o, ho, hr⟩ := l
    obtain ⟨k1, k2⟩ := k b o hw ho
    exact .inr ⟨b, its, ys, e1, e2, hb, k1, ⟨o, k2, hr⟩, f, z.flat f⟩
theorem Rows.move {ow ow' : Ow} {x : Str} {a : Addr} {h h' : Heap} {xs : List D} {vs : List Value} (y : Rows ow x a h xs vs) (k : ∀ b o, ow b = some (.mu x) → h.get? b = some o → ow' b = some (.mu x) ∧ h'.get? b = some o) : Rows ow' x a h' xs vs :=
  ⟨y.len, fun i d v e1 e2 => (y.row i d v e1 e2).move k, y.apart⟩
theorem denL_of {ok : Addr → Prop} {h : Heap} : ∀ {ds : List D} {vs : List Value}, ds.length = vs.length → (∀ (i : Nat) d v, ds[i]? = some d → vs[i]? = some v → Den ok h d v) → DenL ok h ds vs
  | [], [], _, _ => by simp only [DenL]
  | [], _ :: _, e, _ => by simp at e
  | _ :: _, [], e, _ => by simp at e
  | d :: ds, v :: vs, e, f => by
    simp only [DenL]
    exact ⟨v, vs, rfl, f 0 d v rfl rfl, denL_of (by simpa using e) fun i d v a b => f (i + 1) d v a b⟩
theorem Rows.denL {ow : Ow} {x : Str} {a : Addr} {h : Heap} {xs : List D} {vs : List Value} (y : Rows ow x a h xs vs) : DenL T h xs vs := denL_of y.len fun i d v e1 e2 => (y.row i d v e1 e2).den
theorem flat_noref {ok : Addr → Prop} {h : Heap} {d : D} {b : Addr} (f : Flat d) (x : Den ok h d (.ref b)) : False := by
  cases d <;> simp only [Den] at x <;> first | (obtain ⟨t, e⟩ := x; cases e; done) | (cases x; done) | exact f
theorem DenL.at {ok : Addr → Prop} {h : Heap} {ds : List D} {vs : List Value} {i : Nat} {d : D} {v : Value} (x : DenL ok h ds vs) (e1 : ds[i]? = some d) (e2 : vs[i]? = some v) : Den ok h d v := by
  obtain ⟨u, hu, hd⟩ := x.get e1
  rw [hu] at e2; cases e2; exact hd
theorem Rows.ofFlat {ow : Ow} {x : Str} {a : Addr} {h : Heap} {xs : List D} {vs : List Value} (f : ∀ d ∈ xs, Flat d) (y : DenL T h xs vs) : Rows ow x a h xs vs := by
  refine ⟨y.length, fun i d v e1 e2 => .inl ⟨f d (List.mem_of_getElem? e1), y.at e1 e2⟩, fun i j b e1 e2 => ?_⟩
  have hi : i < xs.length := by rw [y.length]; exact (List.getElem?_eq_some_iff.mp e1).1
  exact (flat_noref (f _ (List.getElem_mem hi)) (y.at (List.getElem?_eq_getElem hi) e1)).elim

/-- the names whose lists are turned item by item -/
noncomputable def setN (x : Str) : Bool := [Str.ofString "count", Str.ofString "row", Str.ofString "degrees", Str.ofString "net"].contains x
structure MutAt (ow : Ow) (x : Str) (h : Heap) (xs : List D) (a : Addr) : Prop where
  own : ow a = some (.mu x)
  items : ∃ items, (setN x = false → h.PlainList a items) ∧ h.IsList a items ∧ Rows ow x a h xs items.toList
theorem MutAt.move {ow ow' : Ow} {x : Str} {h h' : Heap} {xs : List D} {a : Addr} (y : MutAt ow x h xs a) (k : ∀ b o, ow b = some (.mu x) → h.get? b = some o → ow' b = some (.mu x) ∧ h'.get? b = some o) : MutAt ow' x h' xs a := by
  obtain ⟨o, items, p, ⟨ob, e, q⟩, r⟩ := y
  exact ⟨(k a _ o e).1, items, fun hx => (p hx).at fun o' e' => (k a _ o e').2, ⟨ob, (k a _ o e).2, q⟩, r.move k⟩

structure Fm (C : Cx) (N : List (Str × NameKind)) (ρ : List (Str × D)) (μ : List (Str × List D)) (env : Env) (s₀ : Shared) (ow : Ow) (s : Shared) : Prop where
  eok : EnvOk N env
  base : C.K.In s₀.heap
  fr : ∃ m cm, InCallC s₀ env.locals m env.cells cm s
  frl : ow env.locals = some .fr
  frc : ∀ n c, env.cells.lookup n = some c → ow c = some .fr
  nofree : ∀ n, N.lookup n ≠ some .free
  old : ∀ a o, s₀.heap.get? a = some o → ow a = none
  new : ∀ a, s.heap.get? a = none → ow a = none
  imm : ∀ x d, ρ.lookup x = some d → ∃ v, Holds env s.heap x v ∧ Den (fun a => ow a = none) s.heap d v
  tur : ∀ x xs, μ.lookup x = some xs → ∃ a, Holds env s.heap x (.ref a) ∧ MutAt ow x s.heap xs a
theorem InCallC.ks {s₀ s s' : Shared} {L : Addr} {m cm : Str → Option Value} {cs : List (Str × Addr)} (x : InCallC s₀ L m cs cm s) (y : Ks s s') : InCallC s₀ L m cs cm s' := by
  obtain ⟨h', tk, rfl, kk⟩ := y
  obtain ⟨h, tk₀, rfl⟩ := x.toInCall.same
  exact ⟨⟨⟨h', tk, rfl⟩, x.toInCall.ns.keeps kk, fun b o e => kk b o (x.toInCall.keep b o e), x.toInCall.fresh⟩, fun n c e => (x.cell n c e).keeps kk, x.apart, x.above⟩
section
variable {env : Env} {s₀ s s' : Shared} {ow ow' : Ow}
theorem Fm.ks (F : Fm C N ρ μ env s₀ ow s) : Ks s₀ s := by
  obtain ⟨m, cm, X⟩ := F.fr
  obtain ⟨h', tk, e, kk⟩ := X.done
  exact ⟨h', tk, e, kk⟩
theorem Fm.pre {A : Around} (F : Fm C N ρ μ env s₀ ow s) (R : Rm k A) : Pre C N ρ μ k env (fun a => ow a = none) A s where
  eok := F.eok
  rm := R
  base := F.base.keeps F.ks.keep
  sim := ⟨F.imm, fun x xs e => by
    obtain ⟨a, h1, ⟨h2, items, h3, h4, h5⟩⟩ := F.tur x xs e
    exact ⟨a, items, h1, h4, h5.denL⟩⟩
  new := F.new
theorem Fm.grow (F : Fm C N ρ μ env s₀ ow s) (y : Ks s s') : Fm C N ρ μ env s₀ ow s' where
  eok := F.eok
  base := F.base
  fr := let ⟨m, cm, X⟩ := F.fr; ⟨m, cm, InCallC.ks X y⟩
  frl := F.frl
  frc := F.frc
  nofree := F.nofree
  old := F.old
  new := new_keeps y.keep F.new
  imm := fun x d e => let ⟨v, a, b⟩ := F.imm x d e; ⟨v, a.keeps y.keep, b.keeps y.keep⟩
  tur := fun x xs e => let ⟨a, h, m⟩ := F.tur x xs e; ⟨a, h.keeps y.keep, m.move fun b o e1 e2 => ⟨e1, y.keep b o e2⟩⟩
noncomputable def SubE {α : Type} (p q : List (Str × α)) : Prop := ∀ x d, p.lookup x = some d → q.lookup x = some d
theorem SubE.refl {α : Type} (p : List (Str × α)) : SubE p p := fun _ _ e => e
theorem SubE.trans {α : Type} {p q r : List (Str × α)} (x : SubE p q) (y : SubE q r) : SubE p r := fun a b e => y a b (x a b e)
theorem Fm.weaken (F : Fm C N ρ μ env s₀ ow s) (h1 : SubE ρ' ρ) (h2 : SubE μ' μ) : Fm C N ρ' μ' env s₀ ow s :=
  { F with imm := fun x d e => F.imm x d (h1 x d e), tur := fun x xs e => F.tur x xs (h2 x xs e) }

/-- what nobody touches stays -/
noncomputable def Ev (ow : Ow) (s : Shared) (ow' : Ow) (s' : Shared) : Prop := ∀ b o, ow b = none ∨ ow b = some .it → s.heap.get? b = some o → ow' b = ow b ∧ s'.heap.get? b = some o
theorem Ev.refl (ow : Ow) (s : Shared) : Ev ow s ow s := fun b o _ e => ⟨rfl, e⟩
theorem Ev.trans {ow'' : Ow} {s'' : Shared} (x : Ev ow s ow' s') (y : Ev ow' s' ow'' s'') : Ev ow s ow'' s'' := fun b o h e => by
  obtain ⟨e1, e2⟩ := x b o h e
  obtain ⟨e3, e4⟩ := y b o (by rw [e1]; exact h) e2
  exact ⟨e3.trans e1, e4⟩
theorem Ev.ofKs (y : Ks s s') : Ev ow s ow s' := fun b o _ e => ⟨rfl, y.keep b o e⟩

structure Post where
  next : List (Str × D) → List (Str × List D) → Prop
  ret : D → Prop
  brk : List (Str × D) → List (Str × List D) → Prop
noncomputable def Sat (C : Cx) (N : List (Str × NameKind)) (Q : Post) (env : Env) (s₀ : Shared) (ow : Ow) (s : Shared) (f : Flow) (s' : Shared) : Prop :=
  match f with
  | .next => ∃ ρ' μ' ow', Q.next ρ' μ' ∧ Fm C N ρ' μ' env s₀ ow' s' ∧ Ev ow s ow' s'
  | .brk => ∃ ρ' μ' ow', Q.brk ρ' μ' ∧ Fm C N ρ' μ' env s₀ ow' s' ∧ Ev ow s ow' s'
  | .ret v => ∃ d, Q.ret d ∧ Den (fun a => s₀.heap.get? a = none) s'.heap d v ∧ Ks s₀ s'
  | .cont => False
theorem Sat.from {Q : Post} {f : Flow} {s'' : Shared} (e : Ev ow s ow' s') (y : Sat C N Q env s₀ ow' s' f s'') : Sat C N Q env s₀ ow s f s'' := by
  cases f with
  | next => obtain ⟨a, b, c, d, e1, e2⟩ := y; exact ⟨a, b, c, d, e1, e.trans e2⟩
  | brk => obtain ⟨a, b, c, d, e1, e2⟩ := y; exact ⟨a, b, c, d, e1, e.trans e2⟩
  | ret v => exact y
  | cont => exact y
end
noncomputable def Sx (C : Cx) (N : List (Str × NameKind)) (ρ : List (Str × D)) (μ : List (Str × List D)) (k : Nat) (ss : List Stmt) (Q : Post) : Prop :=
  ∀ env A s₀ ow s, Rm k A → Fm C N ρ μ env s₀ ow s → wpAny C.M A (execs ss env) (Sat C N Q env s₀ ow s) nox s
/-- one statement, and then the rest -/
noncomputable def S1 (C : Cx) (N : List (Str × NameKind)) (ρ : List (Str × D)) (μ : List (Str × List D)) (k : Nat) (st : Stmt) (Q : Post) : Prop :=
  ∀ env A s₀ ow s, Rm k A → Fm C N ρ μ env s₀ ow s → wpAny C.M A (exec st env) (Sat C N Q env s₀ ow s) nox s
variable {Q : Post} {ss : List Stmt}
theorem Sx.nil (h : Q.next ρ μ) : Sx C N ρ μ k [] Q := fun env A s₀ ow s R F => wpAny_execs_nil ⟨ρ, μ, ow, h, F, Ev.refl _ _⟩
theorem Sx.cons {st : Stmt} {J : List (Str × D) → List (Str × List D) → Prop} (h : S1 C N ρ μ k st ⟨J, Q.ret, Q.brk⟩) (hr : ∀ ρ' μ', J ρ' μ' → Sx C N ρ' μ' k ss Q) : Sx C N ρ μ k (st :: ss) Q := by
  intro env A s₀ ow s R F
  refine wpAny_execs_cons (wpAny_mono (h env A s₀ ow s R F) (fun f s' y => ?_) fun _ _ e => e)
  cases f with
  | next =>
    obtain ⟨ρ', μ', ow', hJ, F', e⟩ := y
    exact wpAny_mono (hr ρ' μ' hJ env A s₀ ow' s' R F') (fun f s'' z => z.from e) fun _ _ e => e
  | brk => exact y
  | ret v => exact y
  | cont => exact y.elim
theorem Sx.weaken (h : Sx C N ρ' μ' k ss Q) (h1 : SubE ρ' ρ) (h2 : SubE μ' μ) : Sx C N ρ μ k ss Q := fun env A s₀ ow s R F => h env A s₀ ow s R (F.weaken h1 h2)
/-! stores -/
noncomputable def Stored (env : Env) (s₀ : Shared) (ow : Ow) (s : Shared) (x : Str) (v : Value) (s' : Shared) : Prop :=
  ∃ t, ow t = some .fr ∧ Heap.SameBut t s.heap s'.heap ∧ (s'.heap.get? t).isSome = true ∧ (∃ m cm, InCallC s₀ env.locals m env.cells cm s') ∧ Holds env s'.heap x v ∧ ∀ y u, y ≠ x → Holds env s.heap y u → Holds env s'.heap y u
theorem store_fm {A : Around} {env : Env} {s₀ s : Shared} {ow : Ow} {x : Str} {v : Value} {E : Value → Shared → Prop} {R : Unit → Shared → Prop} (F : Fm C N ρ μ env s₀ ow s) (hx : N.lookup x = some .local ∨ N.lookup x = some .cell)
    (h : ∀ s', Stored env s₀ ow s x v s' → R () s') : wpAny C.M A (storeName env x v) R E s := by
  obtain ⟨m, cm, X⟩ := F.fr
  have hkx : env.kindOf x = N.lookup x := by unfold Env.kindOf; rw [F.eok.names]
  have hk := F.eok.kind
  rcases hx with hx | hx
  · have hl : env.kindOf x = some .local := by rw [hkx, hx]
    refine wpAny_storeName_local hl X.toInCall.ns (fun h' hn' hs' => h _ ⟨env.locals, F.frl, hs', ?_, ⟨_, cm, ⟨⟨?_, hn', fun b o e => ?_, X.toInCall.fresh⟩, fun n c hc => ?_, X.apart, X.above⟩⟩, ?_, ?_⟩) (by rw [hk]; rfl)
    · obtain ⟨o, _, _, e, _⟩ := hn'; show (h'.get? _).isSome = true; rw [e]; rfl
    · obtain ⟨h₁, tk, rfl⟩ := X.toInCall.same; exact ⟨h', _, rfl⟩
    · exact hs'.extBut b o (Nat.ne_of_lt (Nat.lt_of_lt_of_le (Heap.lt_size e) X.toInCall.fresh)) (X.toInCall.keep b o e)
    · exact (X.cell n c hc).sameBut hs' (Nat.ne_of_gt (X.above n c (mem_of_lookup hc)))
    · exact .inl ⟨hl, _, hn', by simp⟩
    · intro y u hy hu
      rcases hu with ⟨e, m', n', hm'⟩ | ⟨e, c, hc, hi⟩
      · refine .inl ⟨e, _, hn', ?_⟩
        rw [n'.eq_nsMap] at hm'
        simp only [hy, if_false]
        rw [X.toInCall.ns.eq_nsMap]; exact hm'
      · exact .inr ⟨e, c, hc, hi.sameBut hs' (Nat.ne_of_gt (X.above y c (mem_of_lookup hc)))⟩
  · have hl : env.kindOf x = some .cell := by rw [hkx, hx]
    obtain ⟨c, hc⟩ := Option.isSome_iff_exists.mp (F.eok.cells x (.inl hx))
    have hLc := X.above x c (mem_of_lookup hc)
    refine wpAny_storeName_cell hk hl hc (X.cell x c hc) fun h' hi' hs' => h _ ⟨c, F.frc x c hc, hs', ?_, ⟨m, (fun y => if y = x then some v else cm y), ⟨⟨?_, X.toInCall.ns.sameBut hs' (Nat.ne_of_lt hLc), fun b o e => ?_, X.toInCall.fresh⟩, fun n c' hk' => ?_, X.apart, X.above⟩⟩, ?_, ?_⟩
    · obtain ⟨o, e, _⟩ := hi'; show (h'.get? _).isSome = true; rw [e]; rfl
    · obtain ⟨h₁, tk, rfl⟩ := X.toInCall.same; exact ⟨h', _, rfl⟩
    · exact hs'.extBut b o (Nat.ne_of_lt (Nat.lt_trans (Nat.lt_of_lt_of_le (Heap.lt_size e) X.toInCall.fresh) hLc)) (X.toInCall.keep b o e)
    · by_cases hkn : n = x
      · subst hkn
        rw [hc] at hk'; cases hk'
        simpa using hi'
      · rw [if_neg hkn]
        exact (X.cell n c' hk').sameBut hs' fun e => hkn (name_of_addr X.apart (mem_of_lookup hk') (e ▸ mem_of_lookup hc))
    · exact .inr ⟨.inl hl, c, hc, hi'⟩
    · intro y u hy hu
      rcases hu with ⟨e, m', n', hm'⟩ | ⟨e, c', hc', hi⟩
      · exact .inl ⟨e, m', n'.sameBut hs' (Nat.ne_of_lt hLc), hm'⟩
      · exact .inr ⟨e, c', hc', hi.sameBut hs' fun q => hy (name_of_addr X.apart (mem_of_lookup hc') (q ▸ mem_of_lookup hc))⟩

noncomputable def del {α : Type} (x : Str) (p : List (Str × α)) : List (Str × α) := p.filter fun y => !(y.1 == x)
theorem del_lookup {α : Type} {x y : Str} : ∀ {p : List (Str × α)} {d : α}, (del x p).lookup y = some d → y ≠ x ∧ p.lookup y = some d
  | [], d, e => by simp [del] at e
  | (z, e') :: p, d, e => by
    unfold del at e
    rw [List.filter_cons] at e
    by_cases hz : z = x
    · subst hz
      simp only [beq_self_eq_true, Bool.not_true, Bool.false_eq_true, if_false] at e
      obtain ⟨h1, h2⟩ := del_lookup (p := p) e
      refine ⟨h1, ?_⟩
      rw [List.lookup_cons, beq_eq_false_iff_ne.mpr h1]; exact h2
    · simp only [beq_eq_false_iff_ne.mpr hz, Bool.not_false, if_true] at e
      rw [List.lookup_cons] at e ⊢
      by_cases hy : y = z
      · subst hy; exact ⟨hz, by simpa using e⟩
      · rw [beq_eq_false_iff_ne.mpr hy] at e ⊢
        exact del_lookup (p := p) e
section
variable {env : Env} {s₀ s s' : Shared} {ow ow' : Ow}
theorem Stored.keep {x : Str} {v : Value} (y : Stored env s₀ ow s x v s') {b : Addr} {o : Obj} (hb : ow b ≠ some .fr) (e : s.heap.get? b = some o) : s'.heap.get? b = some o := by
  obtain ⟨t, h1, h2, _⟩ := y
  exact h2.extBut b o (fun q => hb (q ▸ h1)) e
theorem Stored.ev {x : Str} {v : Value} (y : Stored env s₀ ow s x v s') : Ev ow s ow s' := fun b o h e => ⟨rfl, y.keep (by rcases h with h | h <;> rw [h] <;> intro q <;> cases q) e⟩
/-- the frame behind a store, but for the name stored -/
theorem Fm.stored {x : Str} {v : Value} (F : Fm C N ρ μ env s₀ ow s) (y : Stored env s₀ ow s x v s') : Fm C N (del x ρ) (del x μ) env s₀ ow s' where
  eok := F.eok
  base := F.base
  fr := let ⟨_, _, _, _, z, _⟩ := y; z
  frl := F.frl
  frc := F.frc
  nofree := F.nofree
  old := F.old
  new := fun a ha => by
    obtain ⟨t, h1, h2, h3, _⟩ := y
    by_cases hat : a = t
    · subst hat; rw [ha] at h3; cases h3
    · exact F.new a ((h2.2 a hat) ▸ ha)
  imm := fun z d e => by
    obtain ⟨h1, h2⟩ := del_lookup e
    obtain ⟨u, hu, hd⟩ := F.imm z d h2
    obtain ⟨t, _, _, _, _, _, h6⟩ := id y
    exact ⟨u, h6 z u h1 hu, hd.move fun b o hb e => y.keep (by rw [hb]; intro q; cases q) e⟩
  tur := fun z xs e => by
    obtain ⟨h1, h2⟩ := del_lookup e
    obtain ⟨u, hu, hd⟩ := F.tur z xs h2
    obtain ⟨t, _, _, _, _, _, h6⟩ := id y
    exact ⟨u, h6 z _ h1 hu, hd.move fun b o hb e => ⟨hb, y.keep (by rw [hb]; intro q; cases q) e⟩⟩
theorem lookup_cons_ne {α : Type} {x y : Str} {d : α} {p : List (Str × α)} (h : y ≠ x) : ((x, d) :: p).lookup y = p.lookup y := by
  rw [List.lookup_cons, beq_eq_false_iff_ne.mpr h]
theorem lookup_del_ne {α : Type} {x y : Str} (h : y ≠ x) : ∀ (p : List (Str × α)), (del x p).lookup y = p.lookup y
  | [] => rfl
  | (z, e) :: p => by
    unfold del
    rw [List.filter_cons]
    by_cases hz : z = x
    · subst hz
      simp only [beq_self_eq_true, Bool.not_true, Bool.false_eq_true, if_false]
      rw [lookup_cons_ne h]; exact lookup_del_ne h p
    · simp only [beq_eq_false_iff_ne.mpr hz, Bool.not_false, if_true]
      rw [List.lookup_cons, List.lookup_cons]
      cases y == z with
      | true => rfl
      | false => exact lookup_del_ne h p
theorem Fm.setImm {x : Str} {v : Value} {d : D} (F : Fm C N ρ μ env s₀ ow s) (hd : Den (fun a => ow a = none) s.heap d v) (y : Stored env s₀ ow s x v s') : Fm C N ((x, d) :: ρ) (del x μ) env s₀ ow s' := by
  have F' := F.stored y
  refine { F' with imm := fun z e hz => ?_ }
  by_cases hzx : z = x
  · subst hzx
    simp only [List.lookup_cons, beq_self_eq_true, Option.some.injEq] at hz
    subst hz
    obtain ⟨_, _, _, _, _, h5, _⟩ := id y
    exact ⟨v, h5, hd.move fun b o hb e => y.keep (by rw [hb]; intro q; cases q) e⟩
  · rw [lookup_cons_ne hzx] at hz
    exact F'.imm z e (by rw [lookup_del_ne hzx]; exact hz)
/-- a list that nobody knows yet becomes the name's own -/
noncomputable def Ow.give (ow : Ow) (a : Addr) (l : Option Lab) : Ow := fun b => if b = a then l else ow b
theorem Fm.own {a : Addr} {l : Lab} (F : Fm C N ρ μ env s₀ ow s) (ha : s.heap.get? a = none) (y : Ks s s') (ha' : (s'.heap.get? a).isSome = true) : Fm C N ρ μ env s₀ (ow.give a (some l)) s' := by
  have F' := F.grow y
  have hne : ∀ b o, s.heap.get? b = some o → b ≠ a := fun b o e q => by rw [q, ha] at e; cases e
  have hnone : ow a = none := F.new a ha
  have hlab : ∀ b l', ow b = some l' → (ow.give a (some l)) b = some l' := fun b l' e => by
    unfold Ow.give
    by_cases q : b = a
    · rw [q, hnone] at e; cases e
    · rw [if_neg q]; exact e
  exact {
    eok := F.eok, base := F.base, fr := F'.fr, nofree := F.nofree
    frl := hlab _ _ F.frl
    frc := fun n c e => hlab _ _ (F.frc n c e)
    old := fun b o e => by
      unfold Ow.give
      rw [if_neg (hne b o (F.ks.keep b o e))]; exact F.old b o e
    new := fun b e => by
      unfold Ow.give
      rw [if_neg (fun q => by rw [q] at e; rw [e] at ha'; cases ha')]; exact F'.new b e
    imm := fun z d e => by
      obtain ⟨v, h1, h2⟩ := F.imm z d e
      refine ⟨v, h1.keeps y.keep, (h2.okMono fun b hb hs => ?_).keeps y.keep⟩
      obtain ⟨o, ho⟩ := Option.isSome_iff_exists.mp hs
      show (ow.give a (some l)) b = none
      unfold Ow.give
      rw [if_neg (hne b o ho)]; exact hb
    tur := fun z xs e => by
      obtain ⟨u, h1, h2⟩ := F'.tur z xs e
      exact ⟨u, h1, h2.move fun b o e1 e2 => ⟨hlab _ _ e1, e2⟩⟩ }
theorem Ev.own {a : Addr} {l : Lab} (ha : s.heap.get? a = none) (y : Ks s s') : Ev ow s (ow.give a (some l)) s' := fun b o h e => by
  refine ⟨?_, y.keep b o e⟩
  unfold Ow.give
  rw [if_neg fun q => by rw [q, ha] at e; cases e]
theorem Fm.setMut {x : Str} {a : Addr} {xs : List D} (F : Fm C N ρ μ env s₀ ow s) (hm : MutAt ow x s.heap xs a) (y : Stored env s₀ ow s x (.ref a) s') : Fm C N (del x ρ) ((x, xs) :: μ) env s₀ ow s' := by
  have F' := F.stored y
  refine { F' with tur := fun z e hz => ?_ }
  by_cases hzx : z = x
  · subst hzx
    simp only [List.lookup_cons, beq_self_eq_true, Option.some.injEq] at hz
    subst hz
    obtain ⟨_, _, _, _, _, h5, _⟩ := id y
    exact ⟨a, h5, hm.move fun b o hb e => ⟨hb, y.keep (by rw [hb]; intro q; cases q) e⟩⟩
  · rw [lookup_cons_ne hzx] at hz
    exact F'.tur z e (by rw [lookup_del_ne hzx]; exact hz)
end
end Mine
end

/-! Calc8 -/
section
namespace Mine
variable {C : Cx} {N : List (Str × NameKind)} {ρ ρ' : List (Str × D)} {μ μ' : List (Str × List D)} {k : Nat} {Q : Post} {ss : List Stmt}

noncomputable abbrev Slot? (N : List (Str × NameKind)) (x : Str) : Prop := N.lookup x = some .local ∨ N.lookup x = some .cell
theorem kind_inter {env : Env} (E : EnvOk N env) : interactive env = false := by unfold interactive; rw [E.kind]; rfl

theorem Sx.assign {x : Str} {px pos : Pos} {e : Expr} {d : D} (h : Ex C N ρ μ k e d) (hr : Sx C N ((x, d) :: ρ) (del x μ) k ss Q)
    (hx : Slot? N x := by first | exact .inl rfl | exact .inr rfl)
    (hs : ∀ env, EnvOk N env → swapsWith e (some (.Name x px)) pos.line env = pure false := by intro _ _; rfl) : Sx C N ρ μ k (.Assign [.Name x px] e pos :: ss) Q := by
  refine Sx.cons (J := fun a b => a = (x, d) :: ρ ∧ b = del x μ) ?_ (by rintro _ _ ⟨rfl, rfl⟩; exact hr)
  intro env A s₀ ow s R F
  refine wpAny_Assign_Name (wpAny_mono (h env _ A s (F.pre R)) (fun v s₁ y => ?_) fun _ _ e => e) (hs env F.eok)
  exact store_fm (F.grow y.1) hx fun s₂ st => ⟨_, _, ow, ⟨rfl, rfl⟩, (F.grow y.1).setImm y.2 st, (Ev.ofKs y.1).trans st.ev⟩
theorem give_self {ow : Ow} {a : Addr} {l : Option Lab} : (ow.give a l) a = l := by unfold Ow.give; rw [if_pos rfl]
theorem plain_some {h : Heap} {a : Addr} {items : Array Value} (x : h.PlainList a items) : (h.get? a).isSome = true := by obtain ⟨n, e⟩ := x; rw [e]; rfl
theorem Sx.assignF {x : Str} {px pos : Pos} {e : Expr} {xs : List D} (h : Fx C N ρ μ k e xs) (hr : Sx C N (del x ρ) ((x, xs) :: μ) k ss Q)
    (hx : Slot? N x := by first | exact .inl rfl | exact .inr rfl)
    (hs : ∀ env, EnvOk N env → swapsWith e (some (.Name x px)) pos.line env = pure false := by intro _ _; rfl) : Sx C N ρ μ k (.Assign [.Name x px] e pos :: ss) Q := by
  refine Sx.cons (J := fun a b => a = del x ρ ∧ b = (x, xs) :: μ) ?_ (by rintro _ _ ⟨rfl, rfl⟩; exact hr)
  intro env A s₀ ow s R F
  refine wpAny_Assign_Name (wpAny_mono (h.2 env _ A s (F.pre R)) (fun v s₁ y => ?_) fun _ _ e => e) (hs env F.eok)
  obtain ⟨y, a, items, rfl, ha, hl, hd⟩ := y
  have F₁ := F.own (l := .mu x) ha y (plain_some hl)
  refine store_fm F₁ hx fun s₂ st => ⟨_, _, _, ⟨rfl, rfl⟩, F₁.setMut ⟨give_self, items, fun _ => hl, hl.isList, Rows.ofFlat h.1 hd⟩ st, (Ev.own ha y).trans st.ev⟩
/-! returns -/
theorem Sx.ret {e : Expr} {pos : Pos} {d : D} (h : Ex C N ρ μ k e d) (f : Flat d) (hq : Q.ret d) : Sx C N ρ μ k (.Return (some e) pos :: ss) Q := by
  refine Sx.cons (J := fun _ _ => False) ?_ (fun _ _ e => e.elim)
  intro env A s₀ ow s R F
  exact wpAny_Return_some (wpAny_mono (h env _ A s (F.pre R)) (fun v s₁ y => ⟨d, hq, y.2.flat f, F.ks.trans y.1⟩) fun _ _ e => e)
theorem Sx.retM {x : Str} {px pos : Pos} {xs : List D} (h : μ.lookup x = some xs) (f : ∀ d ∈ xs, Flat d) (hq : Q.ret (.list xs)) (hd : (x == ("__debug__" : Str)) = false := by decide) (hn : (x == ("__classdict__" : Str)) = false := by decide) :
    Sx C N ρ μ k (.Return (some (.Name x px)) pos :: ss) Q := by
  refine Sx.cons (J := fun _ _ => False) ?_ (fun _ _ e => e.elim)
  intro env A s₀ ow s R F
  obtain ⟨a, ha, ⟨ho, items, _, hl, hr⟩⟩ := F.tur x xs h
  refine wpAny_Return_some (wpAny_Name (load_holds (h := s.heap) F.eok.kind ha hn ⟨_, hq, ?_, F.ks⟩) hd)
  simp only [Den]
  refine ⟨a, items, rfl, ?_, hl, hr.denL.flat f⟩
  cases e : s₀.heap.get? a with
  | none => rfl
  | some o => rw [F.old a o e] at ho; cases ho
/-- what is built of flat names and lists alone is new -/
noncomputable def flatOf (ρ : List (Str × D)) : List (Str × D) := ρ.filter fun x => flatB x.2
theorem Sx.retN {e : Expr} {pos : Pos} {d : D} (hsub : SubE ρ' ρ) (hf : ∀ x d, ρ'.lookup x = some d → Flat d) (h : Ex C N ρ' μ k e d) (hq : Q.ret d) : Sx C N ρ μ k (.Return (some e) pos :: ss) Q := by
  refine Sx.cons (J := fun _ _ => False) ?_ (fun _ _ e => e.elim)
  intro env A s₀ ow s R F
  have P := (F.weaken hsub (SubE.refl μ)).pre R
  have P' : Pre C N ρ' μ k env (fun a => s₀.heap.get? a = none) A s :=
    ⟨P.eok, P.rm, P.base, ⟨fun x d e => let ⟨v, a, b⟩ := P.sim.imm x d e; ⟨v, a, b.flat (hf x d e)⟩, P.sim.tur⟩, fun a ha => none_keep F.ks.keep ha⟩
  exact wpAny_Return_some (wpAny_mono (h env _ A s P') (fun v s₁ y => ⟨d, hq, y.2, F.ks.trans y.1⟩) fun _ _ e => e)
theorem Sx.brk {pos : Pos} (h : Q.brk ρ μ) : Sx C N ρ μ k (.Break pos :: ss) Q := by
  refine Sx.cons (J := fun _ _ => False) ?_ (fun _ _ e => e.elim)
  intro env A s₀ ow s R F
  exact wpAny_Break ⟨_, _, ow, h, F, Ev.refl _ _⟩
theorem Sx.if_ {t : Expr} {b o : List Stmt} {pos : Pos} {c : Bool} {J : List (Str × D) → List (Str × List D) → Prop} (ht : Tx C N ρ μ k t c) (h1 : c = true → Sx C N ρ μ k b ⟨J, Q.ret, Q.brk⟩) (h2 : c = false → Sx C N ρ μ k o ⟨J, Q.ret, Q.brk⟩)
    (hr : ∀ ρ' μ', J ρ' μ' → Sx C N ρ' μ' k ss Q) : Sx C N ρ μ k (.If t b o pos :: ss) Q := by
  refine Sx.cons (J := J) ?_ hr
  intro env A s₀ ow s R F
  refine wpAny_If (wpAny_mono (ht env _ A s (F.pre R)) (fun r s₁ y => ?_) fun _ _ e => e)
  obtain ⟨y, rfl⟩ := y
  cases r with
  | true => simp only [if_true]; exact wpAny_mono (h1 rfl env A s₀ ow s₁ R (F.grow y)) (fun f s' z => z.from (Ev.ofKs y)) fun _ _ e => e
  | false => simp only [Bool.false_eq_true, if_false]; exact wpAny_mono (h2 rfl env A s₀ ow s₁ R (F.grow y)) (fun f s' z => z.from (Ev.ofKs y)) fun _ _ e => e
/-- a test behind which the branch leaves -/
theorem Sx.ifLeave {t : Expr} {b : List Stmt} {pos : Pos} {c : Bool} (ht : Tx C N ρ μ k t c) (h1 : c = true → Sx C N ρ μ k b ⟨fun _ _ => False, Q.ret, Q.brk⟩) (h2 : c = false → Sx C N ρ μ k ss Q) : Sx C N ρ μ k (.If t b [] pos :: ss) Q := by
  cases c with
  | true => exact Sx.if_ (J := fun _ _ => False) ht h1 (fun e => by cases e) (fun _ _ e => e.elim)
  | false => exact Sx.if_ (J := fun a b => a = ρ ∧ b = μ) ht (fun e => by cases e) (fun _ => Sx.nil ⟨rfl, rfl⟩) (by rintro _ _ ⟨rfl, rfl⟩; exact h2 rfl)
end Mine
end

/-! Calc9 -/
section
namespace Mine
variable {C : Cx} {N : List (Str × NameKind)} {ρ ρ' : List (Str × D)} {μ μ' : List (Str × List D)} {k : Nat} {Q : Post} {ss : List Stmt}

/-! while -/
theorem Sx.while_ {σ : Type} {t : Expr} {body : List Stmt} {pos : Pos} (I : Nat → σ → Prop) (R : σ → List (Str × D)) (U : σ → List (Str × List D)) (c : σ → Bool) (n₀ : Nat) (st₀ : σ) (h0 : I n₀ st₀) (hR : SubE (R st₀) ρ) (hU : SubE (U st₀) μ)
    (ht : ∀ n st, I n st → Tx C N (R st) (U st) k t (c st))
    (step : ∀ n st, I n st → c st = true → Sx C N (R st) (U st) k body ⟨fun ρ' μ' => ∃ n' st', n' < n ∧ I n' st' ∧ SubE (R st') ρ' ∧ SubE (U st') μ', Q.ret, fun _ _ => False⟩)
    (after : ∀ n st, I n st → c st = false → Sx C N (R st) (U st) k ss Q) : Sx C N ρ μ k (.While t body [] pos :: ss) Q := by
  refine Sx.cons (J := fun a b => ∃ n st, I n st ∧ c st = false ∧ a = R st ∧ b = U st) ?_ (by rintro _ _ ⟨n, st, h1, h2, rfl, rfl⟩; exact after n st h1 h2)
  intro env A s₀ ow s Rm F
  refine wpAny_While (codeAny_whileLoop (fun n s' => ∃ st ow', I n st ∧ Fm C N (R st) (U st) env s₀ ow' s' ∧ Ev ow s ow' s') (fun n s₁ hI => ?_) n₀ ⟨st₀, ow, h0, F.weaken hR hU, Ev.refl _ _⟩)
  obtain ⟨st, ow₁, hI, F₁, ev⟩ := hI
  refine wpAny_mono (ht n st hI env _ A s₁ (F₁.pre Rm)) (fun r s₂ y => ?_) fun _ _ e => e.elim
  obtain ⟨y, rfl⟩ := y
  cases hc : c st with
  | true =>
    simp only [if_true]
    refine wpAny_mono (step n st hI hc env A s₀ ow₁ s₂ Rm (F₁.grow y)) (fun f s₃ z => ?_) fun _ _ e => e.elim
    cases f with
    | next =>
      obtain ⟨ρ', μ', ow', ⟨n', st', hn, hI', h1, h2⟩, F', e⟩ := z
      exact ⟨n', hn, st', ow', hI', F'.weaken h1 h2, ev.trans ((Ev.ofKs y).trans e)⟩
    | cont => exact z.elim
    | brk => obtain ⟨_, _, _, e, _⟩ := z; exact e.elim
    | ret v => exact z
  | false =>
    simp only [Bool.false_eq_true, if_false]
    exact wpAny_execs_nil ⟨_, _, ow₁, ⟨n, st, hI, hc, rfl, rfl⟩, F₁.grow y, ev.trans (Ev.ofKs y)⟩

/-! for -/
noncomputable def Ow.mark (ow : Ow) (wr : List Addr) (l : Option Lab) : Ow := fun b => if b ∈ wr then l else ow b
theorem mark_in {ow : Ow} {wr : List Addr} {l : Option Lab} {b : Addr} (h : b ∈ wr) : (ow.mark wr l) b = l := by unfold Ow.mark; rw [if_pos h]
theorem mark_out {ow : Ow} {wr : List Addr} {l : Option Lab} {b : Addr} (h : b ∉ wr) : (ow.mark wr l) b = ow b := by unfold Ow.mark; rw [if_neg h]
section
variable {env : Env} {s₀ s s' : Shared} {ow ow' : Ow}
/-- a frame in which other labels stand at addresses that it does not know -/
theorem Fm.relab (F : Fm C N ρ μ env s₀ ow s) {s' : Shared} (hs : ∃ h tk, s' = { s with heap := h, toks := tk }) (hk : ∀ b o, ow b ≠ some .it → (∀ l, ow b = some l → ow' b = some l) → s.heap.get? b = some o → s'.heap.get? b = some o)
    (hl : ∀ b l, ow b = some l → l ≠ .it → ow' b = some l) (hnew : ∀ a, s'.heap.get? a = none → ow' a = none)
    (hold : ∀ a o, s₀.heap.get? a = some o → ow' a = none) (himm : ∀ z d, ρ.lookup z = some d → ∃ v, Holds env s.heap z v ∧ Den (fun a => ow' a = none) s'.heap d v) (hkeep : ∀ b o, s₀.heap.get? b = some o → s'.heap.get? b = some o) : Fm C N ρ μ env s₀ ow' s' := by
  obtain ⟨m, cm, X⟩ := F.fr
  have kl : ∀ b l o, ow b = some l → l ≠ .it → s.heap.get? b = some o → s'.heap.get? b = some o := fun b l o e q r => hk b o (by rw [e]; intro z; injection z with z; exact q z) (fun l' e' => by rw [e] at e'; injection e' with e'; subst e'; exact hl b l e q) r
  have kL : ∀ o, s.heap.get? env.locals = some o → s'.heap.get? env.locals = some o := fun o e => kl _ _ o F.frl (fun q => by cases q) e
  have kC : ∀ n c, env.cells.lookup n = some c → ∀ o, s.heap.get? c = some o → s'.heap.get? c = some o := fun n c hc o e => kl _ _ o (F.frc n c hc) (fun q => by cases q) e
  have hh : ∀ y u, Holds env s.heap y u → Holds env s'.heap y u := fun y u hu => by
    rcases hu with ⟨e, m', n', hm'⟩ | ⟨e, c, hc, ⟨o, ho, hi⟩⟩
    · exact .inl ⟨e, m', Ns.onto n' kL, hm'⟩
    · exact .inr ⟨e, c, hc, ⟨o, kC y c hc o ho, hi⟩⟩
  exact {
    eok := F.eok, base := F.base, nofree := F.nofree
    fr := ⟨m, cm, ⟨⟨by
        obtain ⟨h, tk, rfl⟩ := hs
        obtain ⟨h₁, tk₁, rfl⟩ := X.toInCall.same
        exact ⟨h, tk, rfl⟩, Ns.onto X.toInCall.ns kL, hkeep, X.toInCall.fresh⟩, fun n c hc => let ⟨o, ho, hi⟩ := X.cell n c hc; ⟨o, kC n c hc o ho, hi⟩, X.apart, X.above⟩⟩
    frl := hl _ _ F.frl (fun q => by cases q)
    frc := fun n c e => hl _ _ (F.frc n c e) (fun q => by cases q)
    old := hold
    new := hnew
    imm := fun z d e => let ⟨v, a, b⟩ := himm z d e; ⟨v, hh z v a, b⟩
    tur := fun z zs e => let ⟨b, h1, h2⟩ := F.tur z zs e; ⟨b, hh z _ h1, h2.move fun c o hc e => ⟨hl c _ hc (fun q => by cases q), kl c _ o hc (fun q => by cases q) e⟩⟩ }
end
theorem Sx.for_ {σ : Type} {x : Str} {px pos : Pos} {iter : Expr} {body : List Stmt} {ds : List D} (I : Nat → σ → Prop) (R : σ → List (Str × D)) (U : σ → List (Str × List D)) (B : List (Str × D) → List (Str × List D) → Prop)
    (ix : Ix C N ρ μ k iter ds) (st₀ : σ) (h0 : I 0 st₀) (hR : SubE (R st₀) ρ) (hU : SubE (U st₀) μ)
    (step : ∀ i d st, ds[i]? = some d → I i st → Sx C N ((x, d) :: R st) (del x (U st)) k body ⟨fun ρ' μ' => ∃ st', I (i + 1) st' ∧ SubE (R st') ρ' ∧ SubE (U st') μ', Q.ret, B⟩)
    (after : ∀ st, I ds.length st → Sx C N (R st) (U st) k ss Q) (afterB : ∀ ρ' μ', B ρ' μ' → Sx C N ρ' μ' k ss Q)
    (hx : Slot? N x := by first | exact .inl rfl | exact .inr rfl) : Sx C N ρ μ k (.For (.Name x px) iter body [] pos :: ss) Q := by
  refine Sx.cons (J := fun a b => (∃ st, I ds.length st ∧ a = R st ∧ b = U st) ∨ B a b) ?_ (by
    rintro ρ' μ' (⟨st, h1, rfl, rfl⟩ | h)
    · exact after st h1
    · exact afterB _ _ h)
  intro env A s₀ ow s Rm F
  refine wpAny_For (wpAny_mono (ix.run env _ A s (F.pre Rm)) (fun xv s₁ h₁ => wpAny_mono h₁ (fun it s₂ h₂ => ?_) fun _ _ e => e) fun _ _ e => e) (ix.plain env)
  obtain ⟨K2, Ia, fp, wr, Pv, St, rfl, W, st2, hfp, hok, hwr, hv, live⟩ := h₂
  simp only [Bool.false_eq_true, if_false] at hok
  -- the labels of the loop
  have F₂ := F.grow K2
  have notIn : ∀ b o, s.heap.get? b = some o → b ∉ wr := fun b o e q => by rw [hwr b q] at e; cases e
  have labOut : ∀ b l, ow b = some l → b ∉ wr := fun b l e q => by have := hok b (W.sub b q); rw [this] at e; cases e
  have F₃ : Fm C N ρ μ env s₀ (ow.mark wr (some .it)) s₂ := F₂.relab ⟨_, _, rfl⟩ (fun _ _ _ _ e => e) (fun b l e _ => (mark_out (labOut b l e)).trans e)
    (fun a ha => by
      have : a ∉ wr := fun q => by have := live _ _ st2 a (W.sub a q); rw [ha] at this; cases this
      rw [mark_out this]; exact F₂.new a ha)
    (fun a o e => by rw [mark_out (notIn a o (F.ks.keep a o e))]; exact F.old a o e)
    (fun z d e => by
      obtain ⟨v, h1, h2⟩ := F.imm z d e
      refine ⟨v, h1.keeps K2.keep, (h2.okMono fun b hb hs => ?_).keeps K2.keep⟩
      obtain ⟨o, ho⟩ := Option.isSome_iff_exists.mp hs
      show (ow.mark wr (some .it)) b = none
      rw [mark_out (notIn b o ho)]; exact hb) F₂.ks.keep
  -- the end of the loop: the iterator's addresses are let go
  have fin : ∀ {ρ₁ μ₁} (ow₁ : Ow) (s₃ s₄ : Shared), Fm C N ρ₁ μ₁ env s₀ ow₁ s₃ → (∀ b o, b ∉ wr → ow b = none ∨ ow b = some .it → s₂.heap.get? b = some o → ow₁ b = ow b ∧ s₃.heap.get? b = some o) → (∀ b ∈ wr, ow₁ b = some .it) → (∃ h tk, s₄ = { s₃ with heap := h, toks := tk }) → (∀ b o, b ∉ wr → s₃.heap.get? b = some o → s₄.heap.get? b = some o) →
      Fm C N ρ₁ μ₁ env s₀ (ow₁.mark wr none) s₄ ∧ Ev ow s (ow₁.mark wr none) s₄ := by
    intro ρ₁ μ₁ ow₁ s₃ s₄ F' ev hit hs hk
    have oldOut : ∀ a o, s₀.heap.get? a = some o → a ∉ wr := fun a o e => notIn a o (F.ks.keep a o e)
    refine ⟨F'.relab hs (fun b o h _ e => hk b o (fun q => h (hit b q)) e) (fun b l e q => ?_) (fun a ha => ?_) (fun a o e => ?_) (fun z d e => ?_) (fun b o e => hk b o (oldOut b o e) (F'.ks.keep b o e)), fun b o h e => ?_⟩
    · rw [mark_out fun r => q (by have := hit b r; rw [e] at this; injection this)]; exact e
    · by_cases h : a ∈ wr
      · exact mark_in h
      · rw [mark_out h]
        exact F'.new a (by
          cases q : s₃.heap.get? a with
          | none => rfl
          | some o => rw [hk a o h q] at ha; cases ha)
    · rw [mark_out (oldOut a o e)]; exact F'.old a o e
    · obtain ⟨v, h1, h2⟩ := F'.imm z d e
      refine ⟨v, h1, (h2.move fun b o hb e => hk b o (fun q => ?_) e).okMono fun b hb _ => ?_⟩
      · have := hit b q; rw [hb] at this; cases this
      · show (ow₁.mark wr none) b = none
        by_cases h : b ∈ wr
        · exact mark_in h
        · rw [mark_out h]; exact hb
    · obtain ⟨e3, e4⟩ := ev b o (notIn b o e) h (K2.keep b o e)
      exact ⟨by rw [mark_out (notIn b o e), e3], hk b o (notIn b o e) e4⟩
  refine codeAny_forLoop (fun n s' => ∃ i st ow₁, And7 (n = ds.length - i) (i ≤ ds.length) (I i st) (Fm C N (R st) (U st) env s₀ ow₁ s') ((∀ b o, b ∉ wr → ow b = none ∨ ow b = some .it → s₂.heap.get? b = some o → ow₁ b = ow b ∧ s'.heap.get? b = some o)) ((∀ b ∈ wr, ow₁ b = some .it)) (St i s'.heap)) (fun n s₃ hJ => ?_) ds.length
    ⟨0, st₀, _, rfl, Nat.zero_le _, h0, F₃.weaken hR hU, fun b o hb _ e => ⟨mark_out hb, e⟩, fun b hb => mark_in hb, st2⟩
  obtain ⟨i, st, ow₁, rfl, hi, hI, F₄, ev₄, hit, hSt⟩ := hJ
  have hlab : ∀ b ∈ fp, ow₁ b = none ∨ ow₁ b = some .it := fun b hb => by
    by_cases h : b ∈ wr
    · exact .inr (hit b h)
    · obtain ⟨o, ho⟩ := Option.isSome_iff_exists.mp (live _ _ st2 b hb)
      exact .inl (by rw [(ev₄ b o h (.inl (hok b hb)) ho).1]; exact hok b hb)
  by_cases hlt : i < ds.length
  · refine W.item i s₃ _ _ hlt hSt fun v h' tk hP hSt' hk' => ?_
    obtain ⟨d, hd, hdv⟩ := hv i v hlt hP
    have hfl := ix.flat d (List.mem_of_getElem? hd)
    have F₅ : Fm C N (R st) (U st) env s₀ ow₁ { s₃ with heap := h', toks := tk } := F₄.relab ⟨h', tk, rfl⟩ (fun b o h _ e => hk' b o (fun q => h (hit b q)) e) (fun b l e _ => e)
      (fun a ha => F₄.new a (by
        cases q : s₃.heap.get? a with
        | none => rfl
        | some o =>
          have hnw : a ∉ wr := fun r => by have := live _ _ hSt' a (W.sub a r); rw [show h'.get? a = none from ha] at this; cases this
          rw [show h'.get? a = some o from hk' a o hnw q] at ha; cases ha))
      F₄.old (fun z d e => let ⟨v, h1, h2⟩ := F₄.imm z d e; ⟨v, h1, h2.move fun b o hb e => hk' b o (fun q => by have := hit b q; rw [hb] at this; cases this) e⟩)
      (fun b o e => hk' b o (notIn b o (F.ks.keep b o e)) (F₄.ks.keep b o e))
    refine wpAny_assign_Name (store_fm F₅ hx fun s₅ sd => ?_)
    have F₆ := F₅.setImm (x := x) (d := d) (hdv.flat hfl) sd
    have st₅ : St (i + 1) s₅.heap := W.frame _ _ _ hSt' fun b hb o e => sd.keep (by rcases hlab b hb with q | q <;> rw [q] <;> intro r <;> cases r) e
    have evNext : ∀ (ow₂ : Ow) (s₆ : Shared), Ev ow₁ s₅ ow₂ s₆ → (∀ b o, b ∉ wr → ow b = none ∨ ow b = some .it → s₂.heap.get? b = some o → ow₂ b = ow b ∧ s₆.heap.get? b = some o) ∧ (∀ b ∈ wr, ow₂ b = some .it) ∧ St (i + 1) s₆.heap := by
      intro ow₂ s₆ ev
      refine ⟨fun b o hb h e => ?_, fun b hb => ?_, W.frame _ _ _ st₅ fun b hb o e => (ev b o (hlab b hb) e).2⟩
      · obtain ⟨e1, e2⟩ := ev₄ b o hb h e
        have e3 := sd.keep (by rw [e1]; rcases h with q | q <;> rw [q] <;> intro r <;> cases r) (hk' b o hb e2)
        obtain ⟨e4, e5⟩ := ev b o (by rw [e1]; exact h) e3
        exact ⟨e4.trans e1, e5⟩
      · obtain ⟨o, ho⟩ := Option.isSome_iff_exists.mp (live _ _ st₅ b (W.sub b hb))
        rw [(ev b o (.inr (hit b hb)) ho).1]; exact hit b hb
    refine wpAny_mono (step i d st hd hI env A s₀ ow₁ s₅ Rm F₆) (fun f s₆ z => ?_) fun _ _ e => e.elim
    cases f with
    | next =>
      obtain ⟨ρ', μ', ow₂, ⟨st', hI', h1, h2⟩, F', e⟩ := z
      obtain ⟨q1, q2, q3⟩ := evNext ow₂ s₆ e
      exact ⟨ds.length - (i + 1), by lia, i + 1, st', ow₂, rfl, hlt, hI', F'.weaken h1 h2, q1, q2, q3⟩
    | cont => exact z.elim
    | brk =>
      obtain ⟨ρ', μ', ow₂, hB, F', e⟩ := z
      obtain ⟨q1, q2, q3⟩ := evNext ow₂ s₆ e
      obtain ⟨G, e'⟩ := fin ow₂ s₆ s₆ F' q1 q2 ⟨s₆.heap, s₆.toks, rfl⟩ (fun _ _ _ e => e)
      exact ⟨_, _, _, .inr hB, G, e'⟩
    | ret v => exact z
  · have hin : i = ds.length := by lia
    subst hin
    refine W.done s₃ _ _ hSt fun h' tk hk' => wpAny_execs_nil ?_
    obtain ⟨F', e'⟩ := fin ow₁ s₃ { s₃ with heap := h', toks := tk } F₄ ev₄ hit ⟨h', tk, rfl⟩ hk'
    exact ⟨_, _, _, .inl ⟨st, hI, rfl, rfl⟩, F', e'⟩
end Mine
end

/-! Calc10 -/
section
namespace Mine
variable {C : Cx} {N : List (Str × NameKind)} {ρ ρ' : List (Str × D)} {μ μ' : List (Str × List D)} {k : Nat} {Q : Post} {ss : List Stmt}

/-! several targets -/
theorem Sx.assign2 {x y : Str} {px py pos : Pos} {e : Expr} {d : D} (h : Ex C N ρ μ k e d) (f : Flat d) (hr : Sx C N ((y, d) :: (x, d) :: ρ) (del y (del x μ)) k ss Q)
    (hx : Slot? N x := by first | exact .inl rfl | exact .inr rfl) (hy : Slot? N y := by first | exact .inl rfl | exact .inr rfl)
    (hw : ∀ env, swappedStores [.Name x px, .Name y py] e env = pure none := by intro _; rfl) : Sx C N ρ μ k (.Assign [.Name x px, .Name y py] e pos :: ss) Q := by
  refine Sx.cons (J := fun a b => a = (y, d) :: (x, d) :: ρ ∧ b = del y (del x μ)) ?_ (by rintro _ _ ⟨rfl, rfl⟩; exact hr)
  intro env A s₀ ow s R F
  refine wpAny_Assign_two (wpAny_mono (h env _ A s (F.pre R)) (fun v s₁ q => ?_) fun _ _ e => e) rfl (hw env)
  refine PySem.wpAny_assign_Name (store_fm (F.grow q.1) hx fun s₂ st => PySem.wpAny_assign_Name (store_fm ((F.grow q.1).setImm q.2 st) hy fun s₃ st' => ?_))
  exact ⟨_, _, ow, ⟨rfl, rfl⟩, ((F.grow q.1).setImm q.2 st).setImm (q.2.flat f) st', ((Ev.ofKs q.1).trans st.ev).trans st'.ev⟩
theorem Sx.assign3 {x y z : Str} {px py pz pos : Pos} {e : Expr} {d : D} (h : Ex C N ρ μ k e d) (f : Flat d) (hr : Sx C N ((z, d) :: (y, d) :: (x, d) :: ρ) (del z (del y (del x μ))) k ss Q)
    (hx : Slot? N x := by first | exact .inl rfl | exact .inr rfl) (hy : Slot? N y := by first | exact .inl rfl | exact .inr rfl) (hz : Slot? N z := by first | exact .inl rfl | exact .inr rfl)
    (hw : ∀ env, swappedStores [.Name x px, .Name y py, .Name z pz] e env = pure none := by intro _; rfl) : Sx C N ρ μ k (.Assign [.Name x px, .Name y py, .Name z pz] e pos :: ss) Q := by
  refine Sx.cons (J := fun a b => a = (z, d) :: (y, d) :: (x, d) :: ρ ∧ b = del z (del y (del x μ))) ?_ (by rintro _ _ ⟨rfl, rfl⟩; exact hr)
  intro env A s₀ ow s R F
  refine wpAny_Assign_three (wpAny_mono (h env _ A s (F.pre R)) (fun v s₁ q => ?_) fun _ _ e => e) rfl (hw env)
  refine PySem.wpAny_assign_Name (store_fm (F.grow q.1) hx fun s₂ st => PySem.wpAny_assign_Name (store_fm ((F.grow q.1).setImm q.2 st) hy fun s₃ st' => ?_))
  have F3 := ((F.grow q.1).setImm q.2 st).setImm (d := d) (q.2.flat f) st'
  refine PySem.wpAny_assign_Name (store_fm F3 hz fun s₄ st'' => ⟨_, _, ow, ⟨rfl, rfl⟩, F3.setImm (q.2.flat f) st'', (((Ev.ofKs q.1).trans st.ev).trans st'.ev).trans st''.ev⟩)
theorem Sx.aug {x : Str} {px pos : Pos} {op : Operator} {e : Expr} {i j r : Int} (hi : ρ.lookup x = some (.int i)) (h : Ex C N ρ μ k e (.int j))
    (hop : ∀ {A : Around} {s : Shared} {t u : Tok} {P : Value → Shared → Prop}, (∀ t tk, P (.int r t) { s with toks := tk }) → wpAny C.M A (inplaceOp op (.int i t) (.int j u)) P nox s)
    (hr : Sx C N ((x, .int r) :: ρ) (del x μ) k ss Q)
    (hx : Slot? N x := by first | exact .inl rfl | exact .inr rfl) (hn : (x == ("__classdict__" : Str)) = false := by decide) : Sx C N ρ μ k (.AugAssign (.Name x px) op e pos :: ss) Q := by
  refine Sx.cons (J := fun a b => a = (x, .int r) :: ρ ∧ b = del x μ) ?_ (by rintro _ _ ⟨rfl, rfl⟩; exact hr)
  intro env A s₀ ow s R F
  obtain ⟨v, hv, t, rfl⟩ := F.imm x _ hi
  refine wpAny_AugAssign_Name (load_holds (h := s.heap) F.eok.kind hv hn (wpAny_mono (h env _ A s (F.pre R)) (fun v s₁ q => ?_) fun _ _ e => e))
  obtain ⟨q, u, rfl⟩ := q
  refine hop fun t' tk => ?_
  have q' : Ks s { s₁ with toks := tk } := q.trans (Ks.tok s₁ tk)
  exact store_fm (F.grow q') hx fun s₂ st => ⟨_, _, ow, ⟨rfl, rfl⟩, (F.grow q').setImm den_int st, (Ev.ofKs q').trans st.ev⟩
theorem aug_add {i j : Int} {A : Around} {s : Shared} {t u : Tok} {P : Value → Shared → Prop} (h : ∀ t tk, P (.int (i + j) t) { s with toks := tk }) : wpAny C.M A (inplaceOp .Add (.int i t) (.int j u)) P nox s := PySem.AutoIntOps.iadd_0 (h _ _)
theorem aug_sub {i j : Int} {A : Around} {s : Shared} {t u : Tok} {P : Value → Shared → Prop} (h : ∀ t tk, P (.int (i - j) t) { s with toks := tk }) : wpAny C.M A (inplaceOp .Sub (.int i t) (.int j u)) P nox s := PySem.AutoIntOps.isub_0 (h _ _)

/-! the lists that are turned -/
section
variable {env : Env} {s₀ s s' : Shared} {ow ow' : Ow}
/-- one list of x is turned -/
theorem Fm.turn {x : Str} {a : Addr} {xs : List D} (F : Fm C N ρ μ env s₀ ow s) {b : Addr} (hb : ow b = some (.mu x)) {h' : Heap} {tk : Nat} (hs : Heap.SameBut b s.heap h') (hlive : (h'.get? b).isSome = true) (ha : Holds env s.heap x (.ref a)) (hm : MutAt ow x h' xs a) :
    Fm C N (del x ρ) ((x, xs) :: μ) env s₀ ow { s with heap := h', toks := tk } ∧ Ev ow s ow { s with heap := h', toks := tk } := by
  have kk : ∀ c o, ow c ≠ some (.mu x) → s.heap.get? c = some o → h'.get? c = some o := fun c o q e => hs.extBut c o (fun r => q (r ▸ hb)) e
  have hh : ∀ y u, Holds env s.heap y u → Holds env h' y u := fun y u hu => by
    rcases hu with ⟨e, m', n', hm'⟩ | ⟨e, c, hc, ⟨o, ho, hi⟩⟩
    · exact .inl ⟨e, m', Ns.onto n' fun o e => kk _ o (by rw [F.frl]; intro q; cases q) e, hm'⟩
    · exact .inr ⟨e, c, hc, ⟨o, kk _ o (by rw [F.frc y c hc]; intro q; cases q) ho, hi⟩⟩
  obtain ⟨m, cm, X⟩ := F.fr
  refine ⟨{
    eok := F.eok, base := F.base, nofree := F.nofree, frl := F.frl, frc := F.frc, old := F.old
    fr := ⟨m, cm, ⟨⟨by
        obtain ⟨h₁, tk₁, rfl⟩ := X.toInCall.same
        exact ⟨h', tk, rfl⟩, Ns.onto X.toInCall.ns fun o e => kk _ o (by rw [F.frl]; intro q; cases q) e, fun c o e => kk c o (by rw [F.old c o e]; intro q; cases q) (X.toInCall.keep c o e), X.toInCall.fresh⟩,
        fun n c hc => let ⟨o, ho, hi⟩ := X.cell n c hc; ⟨o, kk _ o (by rw [F.frc n c hc]; intro q; cases q) ho, hi⟩, X.apart, X.above⟩⟩
    new := fun c hc => by
      by_cases hcb : c = b
      · subst hcb; rw [show h'.get? c = none from hc] at hlive; cases hlive
      · exact F.new c ((hs.2 c hcb) ▸ hc)
    imm := fun z d e => by
      obtain ⟨hz, e⟩ := del_lookup e
      obtain ⟨v, h1, h2⟩ := F.imm z d e
      exact ⟨v, hh z v h1, h2.move fun c o hc e => kk c o (by rw [hc]; intro q; cases q) e⟩
    tur := fun z zs e => by
      by_cases hz : z = x
      · subst hz
        simp only [List.lookup_cons, beq_self_eq_true, Option.some.injEq] at e
        subst e
        exact ⟨a, hh _ _ ha, hm⟩
      · rw [lookup_cons_ne hz] at e
        obtain ⟨c, h1, h2⟩ := F.tur z zs e
        exact ⟨c, hh z _ h1, h2.move fun c o hc e => ⟨hc, kk c o (by rw [hc]; intro q; injection q with q; injection q with q; exact hz q) e⟩⟩ },
    fun c o h e => ⟨rfl, kk c o (by rcases h with q | q <;> rw [q] <;> intro r <;> cases r) e⟩⟩
end
theorem DenL.set {ok : Addr → Prop} {h : Heap} {d : D} {v : Value} (y : Den ok h d v) : ∀ {ds : List D} {vs : List Value} (i : Nat), DenL ok h ds vs → DenL ok h (ds.set i d) (vs.set i v)
  | [], _, i, x => by simp only [DenL] at x; subst x; simp only [List.set_nil, DenL]
  | e :: ds, _, i, x => by
    simp only [DenL] at x
    obtain ⟨u, vs', rfl, a, b⟩ := x
    cases i with
    | zero => simp only [List.set_cons_zero, DenL]; exact ⟨v, vs', rfl, y, b⟩
    | succ i => simp only [List.set_cons_succ, DenL]; exact ⟨u, _, rfl, a, DenL.set y i b⟩
theorem flat_set {xs : List D} {d : D} {i : Nat} (f : ∀ e ∈ xs, Flat e) (fd : Flat d) : ∀ e ∈ xs.set i d, Flat e := fun e he => by
  rcases List.mem_or_eq_of_mem_set he with h | rfl
  · exact f e h
  · exact fd
theorem Sx.setitem {x : Str} {px po pos : Pos} {ie e : Expr} {xs : List D} {i : Int} {d : D} (hm : μ.lookup x = some xs) (f : ∀ d ∈ xs, Flat d) (hsx : setN x = true) (he : Ex C N ρ μ k e d) (fd : Flat d) (hi : Ex C N ρ μ k ie (.int i)) (h0 : 0 ≤ i) (h1 : i < xs.length) (h2 : xs.length ≤ sizeLine)
    (hr : Sx C N (del x ρ) ((x, xs.set i.toNat d) :: μ) k ss Q) (hd : (x == ("__debug__" : Str)) = false := by decide) (hn : (x == ("__classdict__" : Str)) = false := by decide)
    (hs : ∀ env, swapsWith e (some (.Subscript (.Name x px) ie po)) pos.line env = pure false := by intro _; rfl) : Sx C N ρ μ k (.Assign [.Subscript (.Name x px) ie po] e pos :: ss) Q := by
  refine Sx.cons (J := fun a b => a = del x ρ ∧ b = (x, xs.set i.toNat d) :: μ) ?_ (by rintro _ _ ⟨rfl, rfl⟩; exact hr)
  intro env A s₀ ow s R F
  refine wpAny_Assign_Subscript (wpAny_mono (he env _ A s (F.pre R)) (fun v s₁ y => ?_) fun _ _ e => e) (hs env)
  have F₁ := F.grow y.1
  obtain ⟨a, ha, hM⟩ := F₁.tur x xs hm
  refine wpAny_Name (load_holds (h := s₁.heap) F.eok.kind ha hn (wpAny_mono (hi env _ A s₁ (F₁.pre R)) (fun iv s₂ z => ?_) fun _ _ e => e)) hd
  obtain ⟨z, t, rfl⟩ := z
  have F₂ := F₁.grow z
  have hM₂ := hM.move (ow' := ow) (h' := s₂.heap) fun b o e1 e2 => ⟨e1, z.keep b o e2⟩
  obtain ⟨ho, items, _, hl, hrw⟩ := hM₂
  have hlen : xs.length = items.size := by rw [hrw.len, Array.length_toList]
  refine wpAny_setItem_list hl h0 (by simp only [sizeLine] at h2; lia) (by lia) fun h' hl' hs' => ?_
  have hM' : MutAt ow x h' (xs.set i.toNat d) a := by
    refine ⟨ho, _, fun q => (by rw [hsx] at q; cases q), hl', Rows.ofFlat (flat_set f fd) ?_⟩
    rw [Array.toList_setIfInBounds]
    exact (hrw.denL.flat f).set (y.2.flat fd) _
  obtain ⟨F', ev⟩ := F₂.turn (tk := s₂.toks) ho hs' (by obtain ⟨o, e, _⟩ := hl'; rw [e]; rfl) (ha.keeps z.keep) hM'
  exact ⟨_, _, ow, ⟨rfl, rfl⟩, F', ((Ev.ofKs y.1).trans (Ev.ofKs z)).trans ev⟩
/-- an item of a row -/
theorem Sx.setitem2 {x : Str} {px pr po pos : Pos} {re ie e : Expr} {xs ys : List D} {r i : Int} {d : D} (hm : μ.lookup x = some xs) (hsx : setN x = true) (he : Ex C N ρ μ k e d) (fd : Flat d) (hre : Ex C N ρ μ k re (.int r)) (hi : Ex C N ρ μ k ie (.int i))
    (hr0 : 0 ≤ r) (hr1 : r < xs.length) (h2 : xs.length ≤ sizeLine) (hy : xs[r.toNat]? = some (.list ys)) (h0 : 0 ≤ i) (h1 : i < ys.length) (h3 : ys.length ≤ sizeLine)
    (hr : Sx C N (del x ρ) ((x, xs.set r.toNat (.list (ys.set i.toNat d))) :: μ) k ss Q) (hd : (x == ("__debug__" : Str)) = false := by decide) (hn : (x == ("__classdict__" : Str)) = false := by decide)
    (hs : ∀ env, swapsWith e (some (.Subscript (.Subscript (.Name x px) re pr) ie po)) pos.line env = pure false := by intro _; rfl) : Sx C N ρ μ k (.Assign [.Subscript (.Subscript (.Name x px) re pr) ie po] e pos :: ss) Q := by
  refine Sx.cons (J := fun a b => a = del x ρ ∧ b = (x, xs.set r.toNat (.list (ys.set i.toNat d))) :: μ) ?_ (by rintro _ _ ⟨rfl, rfl⟩; exact hr)
  intro env A s₀ ow s R F
  refine wpAny_Assign_Subscript (wpAny_mono (he env _ A s (F.pre R)) (fun v s₁ y => ?_) fun _ _ e => e) (hs env)
  have F₁ := F.grow y.1
  obtain ⟨a, ha, hM⟩ := F₁.tur x xs hm
  refine sub_any (wpAny_Name (load_holds (h := s₁.heap) F.eok.kind ha hn (wpAny_mono (hre env _ A s₁ (F₁.pre R)) (fun rv s₂ z => ?_) fun _ _ e => e)) hd)
  obtain ⟨z, t, rfl⟩ := z
  have F₂ := F₁.grow z
  have hM₂ := hM.move (ow' := ow) (h' := s₂.heap) fun b o e1 e2 => ⟨e1, z.keep b o e2⟩
  obtain ⟨ho, items, _, hl, hrw⟩ := id hM₂
  have hlen : xs.length = items.size := by rw [hrw.len, Array.length_toList]
  have hri : r.toNat < items.size := by lia
  have hrow := hrw.row r.toNat _ items[r.toNat] hy (by simp [hri])
  rcases hrow with ⟨q, _⟩ | ⟨b, its, ys', e1, e2, hba, hbo, hbl, hbf, hbd⟩
  · exact q.elim
  injection e1 with e1
  subst e1
  refine ⟨"list", _, hl.typeIs, slot_list_getitem.lookup, wpAny_getItem_list hl hr0 (by simp only [sizeLine] at h2; lia) (Array.getElem?_eq_getElem hri) ?_⟩
  rw [e2]
  refine wpAny_mono (hi env _ A s₂ (F₂.pre R)) (fun iv s₃ zz => ?_) fun _ _ e => e
  obtain ⟨zz, t', rfl⟩ := zz
  have F₃ := F₂.grow zz
  have hbl' : s₃.heap.IsList b its := hbl.at fun o e => zz.keep b o e
  have hblen : ys.length = its.size := by rw [hbd.length, Array.length_toList]
  refine wpAny_setItem_list hbl' h0 (by simp only [sizeLine] at h3; lia) (by lia) fun h' hl' hs' => ?_
  have hkeep : ∀ c o, c ≠ b → s₂.heap.get? c = some o → h'.get? c = some o := fun c o hc e => hs'.extBut c o hc (zz.keep c o e)
  have hM' : MutAt ow x h' (xs.set r.toNat (.list (ys.set i.toNat d))) a := by
    refine ⟨ho, items, fun q => (by rw [hsx] at q; cases q), hl.at fun o e => hkeep a o (Ne.symm hba) e, by rw [List.length_set]; exact hrw.len, fun j dj vj ej ej' => ?_, hrw.apart⟩
    by_cases hj : j = r.toNat
    · subst hj
      rw [List.getElem?_set_self (by lia)] at ej
      cases ej
      have : vj = .ref b := by
        rw [Array.getElem?_toList, Array.getElem?_eq_getElem hri, e2] at ej'; cases ej'; rfl
      subst this
      refine .inr ⟨b, _, _, rfl, rfl, hba, hbo, hl', flat_set hbf fd, ?_⟩
      rw [Array.toList_setIfInBounds]
      exact (hbd.flat hbf).set (y.2.flat fd) _
    · rw [List.getElem?_set_ne (Ne.symm hj)] at ej
      rcases hrw.row j dj vj ej ej' with q | ⟨c, its', ys', q1, q2, q3, q4, q5, q6, q7⟩
      · exact .inl ⟨q.1, q.2.flat q.1⟩
      · have hcb : c ≠ b := fun w => hj (hrw.apart j r.toNat b (by rw [← w, ← q2]; exact ej') (by rw [Array.getElem?_toList, Array.getElem?_eq_getElem hri, e2]))
        exact .inr ⟨c, its', ys', q1, q2, q3, q4, q5.at fun o e => hkeep c o hcb e, q6, q7.flat q6⟩
  obtain ⟨F', ev⟩ := F₃.turn (tk := s₃.toks) hbo hs' (by obtain ⟨o, e, _⟩ := hl'; rw [e]; rfl) (ha.keeps (z.trans zz).keep) hM'
  exact ⟨_, _, ow, ⟨rfl, rfl⟩, F', ((Ev.ofKs y.1).trans ((Ev.ofKs z).trans (Ev.ofKs zz))).trans ev⟩
end Mine
end

/-! Calc11 -/
section
namespace Mine
variable {C : Cx} {N : List (Str × NameKind)} {ρ ρ' : List (Str × D)} {μ μ' : List (Str × List D)} {k : Nat} {Q : Post} {ss : List Stmt}

theorem flat_snoc {xs : List D} {d : D} (f : ∀ e ∈ xs, Flat e) (fd : Flat d) : ∀ e ∈ xs ++ [d], Flat e := fun e he => by
  rcases List.mem_append.mp he with h | h
  · exact f e h
  · simp at h; subst h; exact fd
theorem Sx.append {x : Str} {px pa pc pos : Pos} {e : Expr} {xs : List D} {d : D} (hm : μ.lookup x = some xs) (f : ∀ d ∈ xs, Flat d) (he : Ex C N ρ μ k e d) (fd : Flat d) (h2 : xs.length ≤ sizeLine)
    (hr : Sx C N (del x ρ) ((x, xs ++ [d]) :: μ) k ss Q) (hsx : setN x = false := by rfl) (hline : (pa.endLine == pc.line) = true := by rfl) (hd : (x == ("__debug__" : Str)) = false := by decide) (hn : (x == ("__classdict__" : Str)) = false := by decide)
    (ht : ∀ env, backTo pc (starEach [e] env) = [(false, eval e env)] := by intro _; rfl) : Sx C N ρ μ k (.Expr (.Call (.Attribute (.Name x px) (Str.ofString "append") pa) [e] [] pc) pos :: ss) Q := by
  refine Sx.cons (J := fun a b => a = del x ρ ∧ b = (x, xs ++ [d]) :: μ) ?_ (by rintro _ _ ⟨rfl, rfl⟩; exact hr)
  intro env A s₀ ow s R F
  refine wpAny_Expr (wpAny_Call_method1_late rfl hline (ht env) ?_) (kind_inter F.eok) rfl
  obtain ⟨a, ha, hM⟩ := F.tur x xs hm
  obtain ⟨ho, items, hp, hl, hrw⟩ := id hM
  obtain ⟨n, hob⟩ := hp hsx
  refine wpAny_Name (load_holds (h := s.heap) F.eok.kind ha hn ⟨"list", _, PySem.F.plainAttrs_list, PySem.F.slot_list_append, PySem.F.type_list_append, hl.typeIs, fun b e => by cases e; exact ⟨_, hob, rfl⟩, ?_⟩) hd
  refine P.append_list (wpAny_mono (he env _ A s (F.pre R)) (fun v s₁ y => ?_) fun _ _ e => e)
  have F₁ := F.grow y.1
  have hob₁ := y.1.keep a _ hob
  have hlen : xs.length = items.size := by rw [hrw.len, Array.length_toList]
  refine ⟨items, n, by rw [← hlen]; exact h2, hob₁, ?_⟩
  have hpl : (s₁.heap.update a (Obj.mapSeq fun xs => xs.push v)).PlainList a (items.push v) := ⟨n + 1, by rw [Heap.get?_update_self _ hob₁ (by rw [Obj.mapSeq_push_plain]; rfl), Obj.mapSeq_push_plain]⟩
  have hM' : MutAt ow x (s₁.heap.update a (Obj.mapSeq fun xs => xs.push v)) (xs ++ [d]) a := by
    refine ⟨ho, _, fun _ => hpl, hpl.isList, Rows.ofFlat (flat_snoc f fd) ?_⟩
    rw [Array.toList_push]
    exact (hrw.denL.flat f).snoc (y.2.flat fd)
  obtain ⟨F', ev⟩ := F₁.turn (tk := s₁.toks) ho (Heap.SameBut.update ..) (plain_some hpl) (ha.keeps y.1.keep) hM'
  exact ⟨_, _, ow, ⟨rfl, rfl⟩, F', (Ev.ofKs y.1).trans ev⟩
theorem Sx.pop {x : Str} {px pa pc pos : Pos} {xs : List D} {d : D} (hm : μ.lookup x = some (xs ++ [d])) (f : ∀ d ∈ xs, Flat d) (fd : Flat d) (h2 : xs.length < sizeLine)
    (hr : Sx C N (del x ρ) ((x, xs) :: μ) k ss Q) (hsx : setN x = false := by rfl) (hline : (pa.endLine == pc.line) = true := by rfl) (hd : (x == ("__debug__" : Str)) = false := by decide) (hn : (x == ("__classdict__" : Str)) = false := by decide) :
    Sx C N ρ μ k (.Expr (.Call (.Attribute (.Name x px) (Str.ofString "pop") pa) [] [] pc) pos :: ss) Q := by
  refine Sx.cons (J := fun a b => a = del x ρ ∧ b = (x, xs) :: μ) ?_ (by rintro _ _ ⟨rfl, rfl⟩; exact hr)
  intro env A s₀ ow s R F
  refine wpAny_Expr (wpAny_Call_method0_late rfl hline ?_) (kind_inter F.eok) rfl
  obtain ⟨a, ha, hM⟩ := F.tur x _ hm
  obtain ⟨ho, items, hp, hl, hrw⟩ := id hM
  obtain ⟨n, hob⟩ := hp hsx
  refine wpAny_Name (load_holds (h := s.heap) F.eok.kind ha hn ⟨"list", _, PySem.F.plainAttrs_list, PySem.F.slot_list_pop, PySem.F.type_list_pop, hl.typeIs, fun b e => by cases e; exact ⟨_, hob, rfl⟩, ?_⟩) hd
  have hlen : xs.length + 1 = items.size := by have := hrw.len; simp only [List.length_append, List.length_cons, List.length_nil, Array.length_toList] at this; lia
  have hlt : items.size - 1 < items.size := by lia
  have hy : items[items.size - 1]? = some items[items.size - 1] := Array.getElem?_eq_getElem hlt
  refine P.pop_list hob hy ?_ (by lia)
  have hden := hrw.denL
  have hdv : Den T s.heap d items[items.size - 1] := hden.at (i := xs.length) (by simp) (by rw [Array.getElem?_toList, show xs.length = items.size - 1 by lia]; exact hy)
  have hcut : items.eraseIdxIfInBounds (items.size - 1) = (items.toList.take xs.length).toArray := by
    have : items.toList.eraseIdx (items.size - 1) = items.toList.take xs.length := by
      rw [show xs.length = items.size - 1 by lia, List.eraseIdx_eq_take_drop_succ, List.drop_of_length_le (by rw [Array.length_toList]; lia), List.append_nil]
    rw [← this]
    rw [Array.eraseIdxIfInBounds, dif_pos hlt]
    apply Array.ext'
    rw [Array.toList_eraseIdx]
  have hpl : ∃ ys, (s.heap.update a (Obj.mapSeq fun xs => xs.eraseIdxIfInBounds (items.size - 1))).PlainList a ys ∧ ys.toList = items.toList.take xs.length := by
    refine ⟨items.eraseIdxIfInBounds (items.size - 1), ?_, by rw [hcut]⟩
    have e : ∃ n', Obj.mapSeq (fun xs => xs.eraseIdxIfInBounds (items.size - 1)) { cls := .type "list", data := .seq items n } = { cls := .type "list", data := .seq (items.eraseIdxIfInBounds (items.size - 1)) n' } := by
      simp only [Obj.mapSeq]
      exact ⟨_, rfl⟩
    obtain ⟨n', e⟩ := e
    exact ⟨n', by rw [Heap.get?_update_self _ hob (by rw [e]; rfl), e]⟩
  obtain ⟨ys, hpl, hys⟩ := hpl
  have hM' : MutAt ow x (s.heap.update a (Obj.mapSeq fun xs => xs.eraseIdxIfInBounds (items.size - 1))) xs a := by
    refine ⟨ho, ys, fun _ => hpl, hpl.isList, Rows.ofFlat f ?_⟩
    rw [hys]
    have := (hden.flat (flat_snoc f fd) (ok' := T) (h' := s.heap.update a (Obj.mapSeq fun xs => xs.eraseIdxIfInBounds (items.size - 1)))).take xs.length
    simpa using this
  obtain ⟨F', ev⟩ := F.turn (tk := s.toks) ho (Heap.SameBut.update ..) (plain_some hpl) ha hM'
  have fin : Sat C N ⟨fun a b => a = del x ρ ∧ b = (x, xs) :: μ, Q.ret, Q.brk⟩ env s₀ ow s .next { s with heap := s.heap.update a (Obj.mapSeq fun xs => xs.eraseIdxIfInBounds (items.size - 1)) } := ⟨_, _, ow, ⟨rfl, rfl⟩, F', ev⟩
  generalize items[items.size - 1] = v at hdv
  cases v with
  | ref b => exact (flat_noref fd hdv).elim
  | _ => exact fin
end Mine
end

/-! Calc12 -/
section
namespace Mine
variable {C : Cx} {N : List (Str × NameKind)} {ρ ρ' : List (Str × D)} {μ μ' : List (Str × List D)} {k : Nat} {Q : Post} {ss : List Stmt}

noncomputable def IsSt (C : Cx) (env : Env) (x : Str) (f : Value → Sem Unit) : Prop := ∀ A v s (R : Unit → Shared → Prop), wpAny C.M A (storeName env x v) R nox s → wpAny C.M A (f v) R nox s
theorem isSt_bind {env : Env} {x : Str} : IsSt C env x (bindName env x) := fun A v s R h => wpAny_bindName h
theorem isSt_assign {env : Env} {x : Str} {px : Pos} : IsSt C env x (assign (.Name x px) env) := fun A v s R h => PySem.wpAny_assign_Name h
noncomputable def putI : List Str → List D → List (Str × D) → List (Str × D)
  | x :: xs, d :: ds, ρ => putI xs ds ((x, d) :: ρ)
  | _, _, ρ => ρ
noncomputable def delL {α : Type} : List Str → List (Str × α) → List (Str × α)
  | [], μ => μ
  | x :: xs, μ => delL xs (del x μ)
theorem storesI {env : Env} {s₀ : Shared} {ow : Ow} {A : Around} : ∀ (l : List (Str × (Value → Sem Unit))) {ds : List D} {vs : List Value} {ρ : List (Str × D)} {μ : List (Str × List D)} {s : Shared} {R : Unit → Shared → Prop}, (∀ p ∈ l, IsSt C env p.1 p.2) → l.length = ds.length → (∀ p ∈ l, Slot? N p.1) → Fm C N ρ μ env s₀ ow s →
    DenL (fun a => ow a = none) s.heap ds vs → (∀ s', Fm C N (putI (l.map (·.1)) ds ρ) (delL (l.map (·.1)) μ) env s₀ ow s' → Ev ow s ow s' → R () s') → wpAny C.M A (assignInOrder (l.map (·.2)) vs) R nox s
  | [], ds, vs, ρ, μ, s, R, _, hl, _, F, hd, hR => by
    cases ds with
    | nil => exact wpAny_pure (hR s F (Ev.refl _ _))
    | cons d ds => simp at hl
  | (x, f) :: l, [], vs, ρ, μ, s, R, _, hl, _, F, hd, hR => by simp at hl
  | (x, f) :: l, d :: ds, vs, ρ, μ, s, R, hst, hl, hx, F, hd, hR => by
    simp only [DenL] at hd
    obtain ⟨v, vs', rfl, hv, hvs⟩ := hd
    show wpAny C.M A (do holding vs' (f v); assignInOrder (l.map (·.2)) vs') R nox s
    refine wpAny_bind (wpAny_holding (hst (x, f) List.mem_cons_self A v s _ (store_fm F (hx (x, f) List.mem_cons_self) fun s₁ st => ?_)))
    refine storesI l (fun p hp => hst p (List.mem_cons_of_mem _ hp)) (by simpa using hl) (fun p hp => hx p (List.mem_cons_of_mem _ hp)) (F.setImm hv st) (hvs.move fun b o hb e => st.keep (by rw [hb]; intro q; cases q) e) fun s' F' e => hR s' F' (st.ev.trans e)
theorem tup_den {ok : Addr → Prop} {h : Heap} {ds : List D} {v : Value} (x : Den ok h (.tup ds) v) : ∃ a its, v = .ref a ∧ h.IsTuple a its ∧ DenL ok h ds its.toList := by
  simp only [Den] at x; obtain ⟨a, items, e, _, l, z⟩ := x; exact ⟨a, items, e, l, z⟩
theorem ext_ks {s : Shared} {h' : Heap} (e : Heap.ExtBut s.heap.objs.size s.heap h') : Ks s { s with heap := h' } := ⟨h', s.toks, rfl, fun b o q => e b o (fun r => by rw [r, get_size] at q; cases q) q⟩
/-- the names of a tuple's items, in order -/
theorem Sx.assignTup {elts : List Expr} {kk : Nat} {tp pos : Pos} {e : Expr} {ds : List D} (xs : List (Str × Pos)) (h : Ex C N ρ μ k e (.tup ds)) (hl : xs.length = ds.length) (hr : Sx C N (putI (xs.map (·.1)) ds ρ) (delL (xs.map (·.1)) μ) k ss Q)
    (he : elts = xs.map (fun p => Expr.Name p.1 p.2) := by rfl) (hx : ∀ p ∈ xs, Slot? N p.1)
    (hs : ∀ env, EnvOk N env → swapsWithSole [.Tuple elts kk tp] e pos.line env = pure false := by intro _ _; rfl) (hw : ∀ env, EnvOk N env → swappedStores [.Tuple elts kk tp] e env = pure none := by intro _ _; rfl) : Sx C N ρ μ k (.Assign [.Tuple elts kk tp] e pos :: ss) Q := by
  refine Sx.cons (J := fun a b => a = putI (xs.map (·.1)) ds ρ ∧ b = delL (xs.map (·.1)) μ) ?_ (by rintro _ _ ⟨rfl, rfl⟩; exact hr)
  intro env A s₀ ow s R F
  subst he
  refine Assign_Tuple (wpAny_mono (h env _ A s (F.pre R)) (fun v s₁ y => ?_) fun _ _ e => e) (hs env F.eok) (hw env F.eok)
  obtain ⟨a, its, rfl, ht, hd⟩ := tup_den y.2
  have ea : ∀ ys : List (Str × Pos), assignEach (ys.map (fun p => Expr.Name p.1 p.2)) env = ys.map fun p => (false, PySem.assign (.Name p.1 p.2) env) := by
    intro ys
    induction ys with
    | nil => rfl
    | cons p ys ih => rw [List.map_cons, List.map_cons, ← ih]; rfl
  have hsz : (xs.map fun p => (false, PySem.assign (.Name p.1 p.2) env)).length = its.size := by rw [List.length_map, hl, hd.length, Array.length_toList]
  refine wpAny_assign_Tuple R.hand ht (by rw [ea]; exact hsz) (by rw [ea]; simp [List.findIdx?_eq_none_iff]) fun h' hx' => ?_
  rw [ea, List.map_map]
  have K := y.1.trans (ext_ks hx')
  have := storesI (C := C) (N := N) (A := A) (env := env) (s₀ := s₀) (ow := ow) (xs.map fun p => (p.1, PySem.assign (.Name p.1 p.2) env)) (ds := ds) (vs := its.toList) (ρ := ρ) (μ := μ) (s := { s₁ with heap := h' })
    (R := fun _ => Sat C N ⟨fun a b => a = putI (xs.map (·.1)) ds ρ ∧ b = delL (xs.map (·.1)) μ, Q.ret, Q.brk⟩ env s₀ ow s .next)
    (by intro p hp; obtain ⟨q, _, rfl⟩ := List.mem_map.mp hp; exact isSt_assign) (by rw [List.length_map]; exact hl) (by intro p hp; obtain ⟨q, hq, rfl⟩ := List.mem_map.mp hp; exact hx q hq) (F.grow K)
    (hd.keeps (ext_ks hx').keep) (by
      intro s' F' e
      simp only [List.map_map, Function.comp_def] at F'
      exact ⟨_, _, ow, ⟨rfl, rfl⟩, F', (Ev.ofKs K).trans e⟩)
  simpa only [List.map_map, Function.comp_def] using this
/-- the same, where the stores go backwards -/
theorem Sx.assignSw {elts es : List Expr} {kk kk' : Nat} {tp tp' pos : Pos} {ds : List D} (xs : List Str) (h : ExL C N ρ μ k es ds) (hl : xs.length = ds.length) (hr : Sx C N (putI xs.reverse ds.reverse ρ) (delL xs.reverse μ) k ss Q)
    (hx : ∀ x ∈ xs, Slot? N x) (hsz : ds.length ≤ sizeLine)
    (hw : ∀ env, EnvOk N env → swappedStores [.Tuple elts kk tp] (.Tuple es kk' tp') env = pure (some xs)) (hs : ∀ env, swapsWithSole [.Tuple elts kk tp] (.Tuple es kk' tp') pos.line env = pure false := by intro _; rfl) : Sx C N ρ μ k (.Assign [.Tuple elts kk tp] (.Tuple es kk' tp') pos :: ss) Q := by
  refine Sx.cons (J := fun a b => a = putI xs.reverse ds.reverse ρ ∧ b = delL xs.reverse μ) ?_ (by rintro _ _ ⟨rfl, rfl⟩; exact hr)
  intro env A s₀ ow s R F
  refine Assign_Tuple_swapped (wpAny_mono (Ex.tuple h hsz env _ A s (F.pre R)) (fun v s₁ y => ?_) fun _ _ e => e) (hs env) (hw env F.eok)
  obtain ⟨a, its, rfl, ht, hd⟩ := tup_den y.2
  have hsz' : xs.length = its.size := by rw [hl, hd.length, Array.length_toList]
  rw [hsz']
  refine wpAny_unpackItems_tuple R.hand ht fun h' hx' => ?_
  have K := y.1.trans (ext_ks hx')
  have hrev : ∀ {ds : List D} {vs : List Value}, DenL (fun a => ow a = none) h' ds vs → DenL (fun a => ow a = none) h' ds.reverse vs.reverse := by
    intro ds
    induction ds with
    | nil => intro vs q; simp only [DenL] at q; subst q; simp only [List.reverse_nil, DenL]
    | cons d ds ih =>
      intro vs q
      simp only [DenL] at q
      obtain ⟨v, vs', rfl, q1, q2⟩ := q
      rw [List.reverse_cons, List.reverse_cons]
      exact (ih q2).snoc q1
  have := storesI (C := C) (N := N) (A := A) (env := env) (s₀ := s₀) (ow := ow) (xs.reverse.map fun p => (p, bindName env p)) (ds := ds.reverse) (vs := its.toList.reverse) (ρ := ρ) (μ := μ) (s := { s₁ with heap := h' })
    (R := fun _ => Sat C N ⟨fun a b => a = putI xs.reverse ds.reverse ρ ∧ b = delL xs.reverse μ, Q.ret, Q.brk⟩ env s₀ ow s .next)
    (by intro p hp; obtain ⟨q, _, rfl⟩ := List.mem_map.mp hp; exact isSt_bind) (by rw [List.length_map, List.length_reverse, List.length_reverse]; exact hl) (by intro p hp; obtain ⟨q, hq, rfl⟩ := List.mem_map.mp hp; exact hx q (List.mem_reverse.mp hq)) (F.grow K)
    (hrev (hd.keeps (ext_ks hx').keep)) (by
      intro s' F' e
      simp only [List.map_map, Function.comp_def, List.map_id'] at F'
      exact ⟨_, _, ow, ⟨rfl, rfl⟩, F', (Ev.ofKs K).trans e⟩)
  simpa only [List.map_map, Function.comp_def] using this
end Mine
end

/-! Calc13 -/
section
namespace Mine
variable {C : Cx} {N : List (Str × NameKind)} {ρ ρ' : List (Str × D)} {μ μ' : List (Str × List D)} {k : Nat} {Q : Post} {ss : List Stmt}

/-! several new lists at once -/
noncomputable def FreshL (h h' : Heap) : List (List D) → List Value → Prop
  | [], vs => vs = []
  | xs :: r, vs => ∃ a items vs', vs = .ref a :: vs' ∧ h.get? a = none ∧ h'.PlainList a items ∧ DenL T h' xs items.toList ∧ FreshL h h' r vs' ∧ Value.ref a ∉ vs'
theorem FreshL.keeps {h h' h'' : Heap} (kk : Keep h' h'') : ∀ {xss : List (List D)} {vs : List Value}, FreshL h h' xss vs → FreshL h h'' xss vs
  | [], _, x => x
  | xs :: r, _, ⟨a, items, vs', e, h1, h2, h3, h4, h5⟩ => ⟨a, items, vs', e, h1, h2.at fun o e => kk a o e, h3.keeps kk, FreshL.keeps kk h4, h5⟩
theorem FreshL.older {h₀ h h' : Heap} (kk : Keep h₀ h) : ∀ {xss : List (List D)} {vs : List Value}, FreshL h h' xss vs → FreshL h₀ h' xss vs
  | [], _, x => x
  | xs :: r, _, ⟨a, items, vs', e, h1, h2, h3, h4, h5⟩ => ⟨a, items, vs', e, none_keep kk h1, h2, h3, FreshL.older kk h4, h5⟩
theorem FreshL.mem {h h' : Heap} {a : Addr} : ∀ {xss : List (List D)} {vs : List Value}, FreshL h h' xss vs → Value.ref a ∈ vs → h.get? a = none
  | [], _, x, m => by simp only [FreshL] at x; subst x; cases m
  | xs :: r, _, ⟨b, items, vs', e, h1, h2, h3, h4, h5⟩, m => by
    subst e
    rcases List.mem_cons.mp m with q | q
    · cases q; exact h1
    · exact FreshL.mem h4 q
theorem FreshL.live {h h' : Heap} {a : Addr} : ∀ {xss : List (List D)} {vs : List Value}, FreshL h h' xss vs → Value.ref a ∈ vs → (h'.get? a).isSome = true
  | [], _, x, m => by simp only [FreshL] at x; subst x; cases m
  | xs :: r, _, ⟨b, items, vs', e, h1, h2, h3, h4, h5⟩, m => by
    subst e
    rcases List.mem_cons.mp m with q | q
    · cases q; exact plain_some h2
    · exact FreshL.live h4 q
noncomputable def FxL (C : Cx) (N : List (Str × NameKind)) (ρ : List (Str × D)) (μ : List (Str × List D)) (k : Nat) (es : List Expr) (xss : List (List D)) : Prop :=
  (∀ xs ∈ xss, ∀ d ∈ xs, Flat d) ∧ ∀ pos env ok A s, Pre C N ρ μ k env ok A s → wpAny C.M A (spliced (backTo pos (starEach es env))) (fun vs s' => Ks s s' ∧ FreshL s.heap s'.heap xss vs ∧ vs.length = xss.length) nox s
theorem FxL.nil : FxL C N ρ μ k [] [] := ⟨fun xs h => (List.not_mem_nil h).elim, fun pos env ok A s P => wpAny_items_nil ⟨Ks.refl s, rfl, rfl⟩⟩
theorem FxL.cons {e : Expr} {es : List Expr} {xs : List D} {xss : List (List D)} (h : Fx C N ρ μ k e xs) (hs : FxL C N ρ μ k es xss) (he : ∀ env, starEach (e :: es) env = (false, eval e env) :: starEach es env := by intro _; rfl) : FxL C N ρ μ k (e :: es) (xs :: xss) := by
  refine ⟨fun ys hy => ?_, fun pos env ok A s P => ?_⟩
  · rcases List.mem_cons.mp hy with rfl | q
    · exact h.1
    · exact hs.1 ys q
  · refine wpAny_items_cons (wpAny_mono (h.2 env ok A s P) (fun v s₁ x => ?_) fun _ _ e => e) (he env)
    obtain ⟨x, a, items, rfl, ha, hl, hd⟩ := x
    refine wpAny_mono (hs.2 pos env ok A s₁ (P.keeps x)) (fun vs s₂ y => ⟨x.trans y.1, ⟨a, items, vs, rfl, ha, hl.at fun o e => y.1.keep a o e, hd.keeps y.1.keep, y.2.1.older x.keep, fun q => ?_⟩, ?_⟩) fun _ _ e => e
    · have := y.2.1.mem q
      have h2 := plain_some hl
      rw [this] at h2; cases h2
    · simp [y.2.2]
noncomputable def Ow.giveL (ow : Ow) (l : List (Addr × Lab)) : Ow := fun b => match l.lookup b with | some x => some x | none => ow b
theorem giveL_none {ow : Ow} {l : List (Addr × Lab)} {b : Addr} (h : l.lookup b = none) : (ow.giveL l) b = ow b := by unfold Ow.giveL; rw [h]
theorem giveL_some {ow : Ow} {l : List (Addr × Lab)} {b : Addr} {x : Lab} (h : l.lookup b = some x) : (ow.giveL l) b = some x := by unfold Ow.giveL; rw [h]
theorem lookup_mem {β : Type} {l : List (Addr × β)} {b : Addr} {x : β} (h : l.lookup b = some x) : (b, x) ∈ l := by
  induction l with
  | nil => cases h
  | cons p l ih =>
    rw [List.lookup_cons] at h
    split at h
    · rename_i q; cases h; rw [show b = p.1 from eq_of_beq q]; exact List.mem_cons_self
    · exact List.mem_cons_of_mem _ (ih h)
section
variable {env : Env} {s₀ s s' : Shared} {ow ow' : Ow}
theorem Fm.ownL {l : List (Addr × Lab)} (F : Fm C N ρ μ env s₀ ow s) (ha : ∀ p ∈ l, s.heap.get? p.1 = none) (y : Ks s s') (ha' : ∀ p ∈ l, (s'.heap.get? p.1).isSome = true) : Fm C N ρ μ env s₀ (ow.giveL l) s' ∧ Ev ow s (ow.giveL l) s' := by
  have F' := F.grow y
  have hne : ∀ b o, s.heap.get? b = some o → l.lookup b = none := fun b o e => by
    cases q : l.lookup b with
    | none => rfl
    | some x => have := ha _ (lookup_mem q); rw [e] at this; cases this
  have hlab : ∀ b l', ow b = some l' → (ow.giveL l) b = some l' := fun b l' e => by
    cases q : l.lookup b with
    | none => rw [giveL_none q]; exact e
    | some x => have := F.new b (ha _ (lookup_mem q)); rw [e] at this; cases this
  exact ⟨{
    eok := F.eok, base := F.base, fr := F'.fr, nofree := F.nofree
    frl := hlab _ _ F.frl
    frc := fun n c e => hlab _ _ (F.frc n c e)
    old := fun b o e => by rw [giveL_none (hne b o (F.ks.keep b o e))]; exact F.old b o e
    new := fun b e => by
      cases q : l.lookup b with
      | none => rw [giveL_none q]; exact F'.new b e
      | some x => have := ha' _ (lookup_mem q); rw [show s'.heap.get? b = none from e] at this; cases this
    imm := fun z d e => by
      obtain ⟨v, h1, h2⟩ := F.imm z d e
      refine ⟨v, h1.keeps y.keep, (h2.okMono fun b hb hs => ?_).keeps y.keep⟩
      obtain ⟨o, ho⟩ := Option.isSome_iff_exists.mp hs
      show (ow.giveL l) b = none
      rw [giveL_none (hne b o ho)]; exact hb
    tur := fun z xs e => by
      obtain ⟨u, h1, h2⟩ := F'.tur z xs e
      exact ⟨u, h1, h2.move fun b o e1 e2 => ⟨hlab _ _ e1, e2⟩⟩ }, fun b o h e => ⟨giveL_none (hne b o e), y.keep b o e⟩⟩
end
noncomputable def putM : List Str → List (List D) → List (Str × List D) → List (Str × List D)
  | x :: xs, d :: ds, ρ => putM xs ds ((x, d) :: ρ)
  | _, _, ρ => ρ
noncomputable def MutL (ow : Ow) (h : Heap) : List Str → List (List D) → List Value → Prop
  | x :: xs, d :: ds, vs => ∃ a vs', vs = .ref a :: vs' ∧ MutAt ow x h d a ∧ MutL ow h xs ds vs'
  | [], [], vs => vs = []
  | _, _, _ => False
theorem MutL.move {ow : Ow} {h h' : Heap} (kk : ∀ b o x, ow b = some (.mu x) → h.get? b = some o → h'.get? b = some o) : ∀ {xs : List Str} {ds : List (List D)} {vs : List Value}, MutL ow h xs ds vs → MutL ow h' xs ds vs
  | [], [], _, y => y
  | x :: xs, d :: ds, _, ⟨a, vs', e, m, r⟩ => ⟨a, vs', e, m.move fun b o h1 h2 => ⟨h1, kk b o x h1 h2⟩, MutL.move kk r⟩
  | [], _ :: _, _, y => y.elim
  | _ :: _, [], _, y => y.elim
theorem storesM {env : Env} {s₀ : Shared} {ow : Ow} {A : Around} : ∀ (l : List (Str × (Value → Sem Unit))) {ds : List (List D)} {vs : List Value} {ρ : List (Str × D)} {μ : List (Str × List D)} {s : Shared} {R : Unit → Shared → Prop}, (∀ p ∈ l, IsSt C env p.1 p.2) → (∀ p ∈ l, Slot? N p.1) → Fm C N ρ μ env s₀ ow s →
    MutL ow s.heap (l.map (·.1)) ds vs → (∀ s', Fm C N (delL (l.map (·.1)) ρ) (putM (l.map (·.1)) ds μ) env s₀ ow s' → Ev ow s ow s' → R () s') → wpAny C.M A (assignInOrder (l.map (·.2)) vs) R nox s
  | [], ds, vs, ρ, μ, s, R, _, _, F, hd, hR => by
    cases ds with
    | nil => exact wpAny_pure (hR s F (Ev.refl _ _))
    | cons d ds => exact hd.elim
  | (x, f) :: l, [], vs, ρ, μ, s, R, _, _, F, hd, hR => hd.elim
  | (x, f) :: l, d :: ds, vs, ρ, μ, s, R, hst, hx, F, hd, hR => by
    obtain ⟨a, vs', rfl, hm, hvs⟩ := hd
    show wpAny C.M A (do holding vs' (f (.ref a)); assignInOrder (l.map (·.2)) vs') R nox s
    refine wpAny_bind (wpAny_holding (hst (x, f) List.mem_cons_self A _ s _ (store_fm F (hx (x, f) List.mem_cons_self) fun s₁ st => ?_)))
    refine storesM l (fun p hp => hst p (List.mem_cons_of_mem _ hp)) (fun p hp => hx p (List.mem_cons_of_mem _ hp)) (F.setMut hm st) (hvs.move fun b o x hb e => st.keep (by rw [hb]; intro q; cases q) e) fun s' F' e => hR s' F' (st.ev.trans e)
noncomputable def labs : List Str → List Value → List (Addr × Lab)
  | x :: xs, .ref a :: vs => (a, .mu x) :: labs xs vs
  | _, _ => []
theorem labs_mem {a : Addr} {l : Lab} : ∀ {xs : List Str} {vs : List Value}, (a, l) ∈ labs xs vs → Value.ref a ∈ vs
  | [], _, h => by simp [labs] at h
  | x :: xs, [], h => by simp [labs] at h
  | x :: xs, v :: vs, h => by
    cases v with
    | ref b =>
      simp only [labs, List.mem_cons, Prod.mk.injEq] at h
      rcases h with ⟨rfl, _⟩ | h
      · exact List.mem_cons_self
      · exact List.mem_cons_of_mem _ (labs_mem h)
    | _ => simp [labs] at h
theorem mutL_of {h h' : Heap} (ow : Ow) : ∀ {xs : List Str} {xss : List (List D)} {vs : List Value}, xs.length = xss.length → (∀ xs ∈ xss, ∀ d ∈ xs, Flat d) → FreshL h h' xss vs → ∀ ow' : Ow, (∀ a l, (labs xs vs).lookup a = some l → ow' a = some l) → MutL ow' h' xs xss vs
  | [], [], vs, _, _, x, ow', _ => x
  | [], _ :: _, vs, e, _, x, ow', _ => by simp at e
  | _ :: _, [], vs, e, _, x, ow', _ => by simp at e
  | x :: xs, ys :: xss, vs, e, f, ⟨a, items, vs', e', h1, h2, h3, h4, h5⟩, ow', hl => by
    subst e'
    refine ⟨a, vs', rfl, ⟨hl a _ (by simp [labs]), items, fun _ => h2, h2.isList, Rows.ofFlat (f ys List.mem_cons_self) h3⟩, mutL_of ow (by simpa using e) (fun zs hz => f zs (List.mem_cons_of_mem _ hz)) h4 ow' fun b l hb => hl b l ?_⟩
    have hba : b ≠ a := fun q => h5 (q ▸ labs_mem (lookup_mem hb))
    simp only [labs]
    rw [List.lookup_cons, beq_eq_false_iff_ne.mpr hba]
    exact hb
/-- names of new lists -/
theorem Sx.assignTupF {elts es : List Expr} {kk kk' : Nat} {tp tp' pos : Pos} {xss : List (List D)} (xs : List (Str × Pos)) (h : FxL C N ρ μ k es xss) (hl : xs.length = xss.length) (hsz : xss.length ≤ sizeLine) (hr : Sx C N (delL (xs.map (·.1)) ρ) (putM (xs.map (·.1)) xss μ) k ss Q)
    (he : elts = xs.map (fun p => Expr.Name p.1 p.2) := by rfl) (hx : ∀ p ∈ xs, Slot? N p.1)
    (hs : ∀ env, EnvOk N env → swapsWithSole [.Tuple elts kk tp] (.Tuple es kk' tp') pos.line env = pure false := by intro _ _; rfl) (hw : ∀ env, EnvOk N env → swappedStores [.Tuple elts kk tp] (.Tuple es kk' tp') env = pure none) : Sx C N ρ μ k (.Assign [.Tuple elts kk tp] (.Tuple es kk' tp') pos :: ss) Q := by
  refine Sx.cons (J := fun a b => a = delL (xs.map (·.1)) ρ ∧ b = putM (xs.map (·.1)) xss μ) ?_ (by rintro _ _ ⟨rfl, rfl⟩; exact hr)
  intro env A s₀ ow s R F
  subst he
  refine Assign_Tuple (wpAny_Tuple (wpAny_mono (h.2 tp' env _ A s (F.pre R)) (fun vs s₁ y => ⟨by rw [y.2.2]; exact hsz, ?_⟩) fun _ _ e => e)) (hs env F.eok) (hw env F.eok)
  obtain ⟨y, hf, hvl⟩ := y
  have ea : ∀ ys : List (Str × Pos), assignEach (ys.map (fun p => Expr.Name p.1 p.2)) env = ys.map fun p => (false, PySem.assign (.Name p.1 p.2) env) := by
    intro ys
    induction ys with
    | nil => rfl
    | cons p ys ih => rw [List.map_cons, List.map_cons, ← ih]; rfl
  have ht : (s₁.heap.push { cls := .type "tuple", data := .seq vs.toArray }).IsTuple s₁.heap.objs.size vs.toArray := ⟨_, Heap.get?_push_size _ rfl, rfl, _, rfl⟩
  refine wpAny_assign_Tuple R.hand ht (by rw [ea, List.length_map, hl, ← hvl]; simp) (by rw [ea]; simp [List.findIdx?_eq_none_iff]) fun h' hx' => ?_
  rw [ea, List.map_map]
  have K1 := (Ks.push s₁ { cls := .type "tuple", data := .seq vs.toArray }).trans (ext_ks (s := { s₁ with heap := s₁.heap.push { cls := .type "tuple", data := .seq vs.toArray } }) hx')
  have K := y.trans K1
  have hf' : FreshL s.heap h' xss vs := hf.keeps K1.keep
  obtain ⟨F', ev⟩ := F.ownL (l := labs (xs.map (·.1)) vs) (fun p hp => hf'.mem (labs_mem hp)) K (fun p hp => hf'.live (labs_mem hp))
  have hML := mutL_of ow (xs := xs.map (·.1)) (by rw [List.length_map]; exact hl) h.1 hf' (ow.giveL (labs (xs.map (·.1)) vs)) fun a l q => giveL_some q
  have := storesM (C := C) (N := N) (A := A) (env := env) (s₀ := s₀) (xs.map fun p => (p.1, PySem.assign (.Name p.1 p.2) env)) (ds := xss) (vs := vs) (ρ := ρ) (μ := μ)
    (R := fun _ => Sat C N ⟨fun a b => a = delL (xs.map (·.1)) ρ ∧ b = putM (xs.map (·.1)) xss μ, Q.ret, Q.brk⟩ env s₀ ow s .next)
    (by intro p hp; obtain ⟨q, _, rfl⟩ := List.mem_map.mp hp; exact isSt_assign) (by intro p hp; obtain ⟨q, hq, rfl⟩ := List.mem_map.mp hp; exact hx q hq) F'
    (by simpa only [List.map_map, Function.comp_def] using hML) (by
      intro s' F' e
      simp only [List.map_map, Function.comp_def] at F'
      exact ⟨_, _, _, ⟨rfl, rfl⟩, F', ev.trans e⟩)
  simpa only [List.map_map, Function.comp_def] using this
end Mine
end

/-! Calc14 -/
section
namespace Mine
variable {C : Cx} {N : List (Str × NameKind)} {ρ ρ' : List (Str × D)} {μ μ' : List (Str × List D)} {k : Nat} {Q : Post} {ss : List Stmt}

/-! a def of the text -/
structure Fn (C : Cx) (a : Addr) (ps : List Str) (N : List (Str × NameKind)) (body : List Stmt) : Prop where
  obj : ∃ o fd, And12 (C.K.lookup a = some o) (o.data = .func fd) (fd.body = .stmts body) (fd.scope.names = N) (fd.scope.kind = .function) (fd.scope.isCoroutine = false) (fd.scope.isGenerator = false) (fd.closure = []) (fd.globals = mainGlobals) (fd.builtins = builtinsNs) ((∀ vals : List Value, vals.length = ps.length → bindArgs fd ⟨vals, []⟩ = pure (ps.zip vals))) ((∀ h, C.K.In h → h.CodeRec fd.code fd.qualname))
  nodup : (N.map (·.1)).Nodup
  pnodup : ps.Nodup
  slots : ∀ p ∈ ps, Slot? N p
  nofree : ∀ n, N.lookup n ≠ some .free

theorem bindL_not {kd : Str → Option NameKind} {x : Str} : ∀ (b : List (Str × Value)) (m : Str → Option Value), x ∉ b.map (·.1) → bindL kd b m x = m x
  | [], m, _ => rfl
  | (n, v) :: r, m, h => by
    simp only [List.map_cons, List.mem_cons, not_or] at h
    unfold bindL
    rw [bindL_not r _ h.2]
    split
    · show (if x = n then some v else m x) = m x; rw [if_neg h.1]
    · rfl
theorem bindC_not {kd : Str → Option NameKind} {x : Str} : ∀ (b : List (Str × Value)) (m : Str → Option Value), x ∉ b.map (·.1) → bindC kd b m x = m x
  | [], m, _ => rfl
  | (n, v) :: r, m, h => by
    simp only [List.map_cons, List.mem_cons, not_or] at h
    unfold bindC
    rw [bindC_not r _ h.2]
    split
    · rfl
    · show (if x = n then some v else m x) = m x; rw [if_neg h.1]
theorem bindL_get {kd : Str → Option NameKind} {x : Str} {v : Value} (hk : kd x = some .local) : ∀ (b : List (Str × Value)) (m : Str → Option Value), (b.map (·.1)).Nodup → b.lookup x = some v → bindL kd b m x = some v
  | [], m, _, h => by cases h
  | (n, w) :: r, m, hn, h => by
    simp only [List.map_cons, List.nodup_cons] at hn
    unfold bindL
    rw [List.lookup_cons] at h
    by_cases hx : x = n
    · subst hx
      rw [bindL_not r _ hn.1]
      simp only [beq_self_eq_true, Option.some.injEq] at h
      simp [hk, h]
    · rw [beq_eq_false_iff_ne.mpr hx] at h
      exact bindL_get hk r _ hn.2 h
theorem bindC_get {kd : Str → Option NameKind} {x : Str} {v : Value} (hk : kd x ≠ some .local) : ∀ (b : List (Str × Value)) (m : Str → Option Value), (b.map (·.1)).Nodup → b.lookup x = some v → bindC kd b m x = some v
  | [], m, _, h => by cases h
  | (n, w) :: r, m, hn, h => by
    simp only [List.map_cons, List.nodup_cons] at hn
    unfold bindC
    rw [List.lookup_cons] at h
    by_cases hx : x = n
    · subst hx
      rw [bindC_not r _ hn.1]
      simp only [beq_self_eq_true, Option.some.injEq] at h
      simp [hk, h]
    · rw [beq_eq_false_iff_ne.mpr hx] at h
      exact bindC_get hk r _ hn.2 h
theorem zip_den {ok : Addr → Prop} {h : Heap} {x : Str} {d : D} : ∀ {ps : List Str} {ds : List D} {vs : List Value}, DenL ok h ds vs → (ps.zip ds).lookup x = some d → ∃ v, (ps.zip vs).lookup x = some v ∧ Den ok h d v
  | [], ds, vs, _, e => by simp at e
  | p :: ps, [], vs, _, e => by simp at e
  | p :: ps, d' :: ds, vs, y, e => by
    simp only [DenL] at y
    obtain ⟨v, vs', rfl, y1, y2⟩ := y
    simp only [List.zip_cons_cons, List.lookup_cons] at e ⊢
    cases hp : x == p with
    | true => simp only [hp] at e ⊢; cases e; exact ⟨v, rfl, y1⟩
    | false => simp only [hp] at e ⊢; exact zip_den y2 e
theorem zip_fst {ps : List Str} : ∀ {vs : List Value}, vs.length = ps.length → (ps.zip vs).map (·.1) = ps := by
  induction ps with
  | nil => intro vs _; simp
  | cons p ps ih => intro vs h; cases vs with
    | nil => simp at h
    | cons v vs => simp only [List.zip_cons_cons, List.map_cons]; rw [ih (by simpa using h)]
theorem Rm.deeper {A : Around} {env : Env} (h : Rm (k + 1) A) : Rm k (A.deeper env) := ⟨h.hand, by have := h.depth; show A.depth + 1 + 5 * k ≤ 400; lia, by have := h.units; show A.units + 3 + 20 * k ≤ 500; lia⟩
theorem Rm.less {A : Around} (h : Rm (k + 1) A) : Rm k A := ⟨h.hand, by have := h.depth; lia, by have := h.units; lia⟩

open Classical in
noncomputable def frOw (L : Addr) (cs : List (Str × Addr)) : Ow := fun b => if b = L ∨ ∃ n, cs.lookup n = some b then some .fr else none
/-- the frame of a call -/
theorem call_fm {a : Addr} {ps : List Str} {body : List Stmt} (X : Fn C a ps N body) {ds : List D} {vs : List Value} (hlen : ds.length = ps.length) {A : Around} {s : Shared} (hr : A.depth < recursionLimit) (hb : C.K.In s.heap) (hv : DenL T s.heap ds vs) {R : Result → Shared → Prop}
    (h : ∀ env s₁ ow, Fm C N (ps.zip ds) [] env s ow s₁ → (∀ b, ow b = none ∨ ow b = some .fr) → wpAny C.M (A.deeper env) (execs body env) (fun f s' => R (.ok (.ret (match f with | .ret v => v | _ => .none))) s') nox s₁) :
    codeAny C.M A (.call (.ref a) ⟨vs, []⟩) R s := by
  obtain ⟨o, fd, ho, hdat, hbody, hN, hkind, hco, hgen, hclo, hglob, hbi, hbind, hcode⟩ := X.obj
  have hvl : vs.length = ps.length := by rw [← hv.length, hlen]
  have cellOf : ∀ x, N.lookup x = some .cell → ∃ c, (cellsFrom (s.heap.objs.size + 1) fd.scope.names []).lookup x = some c := fun x hx => by
    rw [hN]
    have := cellsFrom_has N (s.heap.push { cls := .type "frame", data := .dict #[] }) [] X.nodup (mem_of_lookupK hx)
    rw [Heap.size_push] at this
    obtain ⟨c, h1, _⟩ := this
    exact ⟨c, h1⟩
  refine codeAny_call_cells hr (hb a o ho) hdat (C.tops _ hb).2.2 (hcode _ hb) hbody (hbind vs hvl) hclo (fun x hx => ?_) (fun s₁ Y => ?_) hco hgen hkind
  · have hp : x.1 ∈ ps := by rw [← zip_fst hvl]; exact List.mem_map_of_mem hx
    rw [hN]
    rcases X.slots _ hp with q | q
    · exact .inl q
    · obtain ⟨c, hc⟩ := cellOf x.1 q
      rw [hN] at hc
      exact .inr ⟨q, by rw [hc]; rfl⟩
  · generalize hE : callEnvC fd s.heap.objs.size a = env at Y ⊢
    have e1 : env.scope.names = N := by rw [← hE]; exact hN
    have e2 : env.locals = s.heap.objs.size := by rw [← hE]; rfl
    have e3 : env.cells = cellsFrom (s.heap.objs.size + 1) fd.scope.names [] := by rw [← hE]; rfl
    have hk : ∀ x, env.kindOf x = N.lookup x := fun x => by unfold Env.kindOf; rw [e1]
    have eok : EnvOk N env := ⟨e1, by rw [← hE]; exact hkind, by rw [← hE]; exact hglob, by rw [← hE]; exact hbi, fun n hn => by
      rcases hn with q | q
      · obtain ⟨c, hc⟩ := cellOf n q; rw [e3, hc]; rfl
      · exact (X.nofree n q).elim⟩
    refine wpAny_mono (h env s₁ (frOw env.locals env.cells) {
      eok := eok, base := hb, fr := ⟨_, _, Y⟩
      frl := by unfold frOw; rw [if_pos (.inl rfl)]
      frc := fun n c e => by unfold frOw; rw [if_pos (.inr ⟨n, e⟩)]
      nofree := X.nofree
      old := fun b o e => by
        have hlt : b < s.heap.objs.size := Heap.lt_size e
        unfold frOw
        rw [if_neg]
        rintro (q | ⟨n, q⟩)
        · rw [q, e2] at hlt; exact Nat.lt_irrefl _ hlt
        · have := Y.above n b (mem_of_lookup q)
          rw [e2] at this
          exact absurd hlt (Nat.not_lt.mpr (Nat.le_of_lt this))
      new := fun b e => by
        unfold frOw
        rw [if_neg]
        rintro (q | ⟨n, q⟩)
        · obtain ⟨o, _, _, e', _⟩ := Y.toInCall.ns; rw [← q, e] at e'; cases e'
        · obtain ⟨o, e', _⟩ := Y.cell n b q; rw [e] at e'; cases e'
      imm := fun x d e => by
        obtain ⟨v, hv1, hv2⟩ := zip_den hv e
        have hp : x ∈ ps := by rw [← zip_fst hvl]; exact List.mem_map_of_mem (mem_of_lookup hv1)
        have hnd : ((ps.zip vs).map (·.1)).Nodup := by rw [zip_fst hvl]; exact X.pnodup
        refine ⟨v, ?_, (hv2.okMono fun b _ hs => ?_).keeps Y.toInCall.keep⟩
        · rcases X.slots x hp with q | q
          · exact .inl ⟨by rw [hk, q], _, Y.toInCall.ns, bindL_get (by rw [hk, q]) _ _ hnd hv1⟩
          · obtain ⟨c, hc⟩ := cellOf x q
            have hc' : env.cells.lookup x = some c := by rw [e3]; exact hc
            have := Y.cell x c hc'
            rw [bindC_get (by rw [hk, q]; decide) _ _ hnd hv1] at this
            exact .inr ⟨.inl (by rw [hk, q]), c, hc', this⟩
        · obtain ⟨o, ho⟩ := Option.isSome_iff_exists.mp hs
          have hlt : b < s.heap.objs.size := Heap.lt_size ho
          show frOw env.locals env.cells b = none
          unfold frOw
          rw [if_neg]
          rintro (q | ⟨n, q⟩)
          · rw [q, e2] at hlt; exact Nat.lt_irrefl _ hlt
          · have := Y.above n b (mem_of_lookup q)
            rw [e2] at this
            exact absurd hlt (Nat.not_lt.mpr (Nat.le_of_lt this))
      tur := fun x xs e => by cases e } (fun b => by
        unfold frOw
        split
        · exact .inr rfl
        · exact .inl rfl)) (fun _ _ z => z) fun _ _ z => z.elim
theorem Clv.fn {a : Addr} {ps : List Str} {body : List Stmt} (X : Fn C a ps N body) {ds : List D} {d : D} (hlen : ds.length = ps.length) (h : Sx C N (ps.zip ds) [] k body ⟨fun _ _ => False, fun r => r = d, fun _ _ => False⟩) : Clv C (k + 1) (.ref a) ds d := by
  intro ok A s vs hr hb hn hv
  refine wpAny_call (call_fm X hlen (by have := hr.depth; show A.depth < 1000; lia) hb hv fun env s₁ ow F _ => ?_)
  refine wpAny_mono (h env _ s ow s₁ hr.deeper F) (fun f s' z => ?_) fun _ _ z => z
  cases f with
  | next => obtain ⟨_, _, _, e, _⟩ := z; exact e.elim
  | brk => obtain ⟨_, _, _, e, _⟩ := z; exact e.elim
  | cont => exact z.elim
  | ret v =>
    obtain ⟨d', rfl, hd, hk⟩ := z
    exact ⟨hk, hd.okMono fun a ha _ => hn a ha⟩
theorem Ex.callF {f e : Expr} {es : List Expr} {pos : Pos} {a : Addr} {ds : List D} {d : D} {ps : List Str} {N' : List (Str × NameKind)} {body : List Stmt} (X : Fn C a ps N' body) (hf : Vx C N ρ μ k f (.ref a)) (ha : EwL C N ρ μ k (e :: es) ds) (hc : Clv C k (.ref a) ds d)
    (hn : ∀ env, eval (.Call f (e :: es) [] pos) env = (do callWith pos (← eval f env) [] (backTo pos (starEach (e :: es) env)) (backToKw pos (keywordEach [] env))) := by intro _; rfl)
    (he : ∀ env, starEach (e :: es) env = (false, eval e env) :: starEach es env := by intro _; rfl) : Ex C N ρ μ k (.Call f (e :: es) [] pos) d := by
  intro env ok A s P
  obtain ⟨o, fd, ho, hdat, _⟩ := X.obj
  rw [hn env]
  refine wpAny_bind (wpAny_mono (hf env ok A s P) (fun v s₁ x => ?_) fun _ _ e => e)
  obtain ⟨x, rfl⟩ := x
  refine callWith_def hdat (wpAny_mono (ha.2 pos env ok A s₁ (P.keeps x)) (fun vs s₂ y => ?_) fun _ _ e => e) (he env)
  have P₂ := (P.keeps x).keeps y.1
  exact ⟨P₂.base a o ho, wpAny_mono (hc ok A s₂ vs P₂.rm P₂.base P₂.new y.2) (fun r s₃ z => ⟨(x.trans y.1).trans z.1, z.2⟩) fun _ _ e => e⟩
end Mine
end

/-! Calc15 -/
section
namespace Mine
variable {C : Cx} {N : List (Str × NameKind)} {ρ ρ' : List (Str × D)} {μ μ' : List (Str × List D)} {k : Nat} {Q : Post} {ss : List Stmt}

/-! values as tests -/
theorem Tx.str {e : Expr} {x : Str} (h : Ex C N ρ μ k e (.str x)) (hsz : x.length ≤ sizeLine) (he : ∀ env (w : Sem Value), isTrue e env w = (do let v ← w; standAt e.pos; holding [v] (truthy v)) := by intro _ _; rfl) : Tx C N ρ μ k e ((x.length : Int) != 0) := by
  intro env ok A s P
  refine wpAny_isTrue_value (wpAny_mono (h env ok A s P) (fun v s₁ y => ?_) fun _ _ e => e) (he env _)
  obtain ⟨y, t, rfl⟩ := y
  exact PySem.P.truthy_str (by simp only [sizeLine] at hsz; lia) ⟨y.trans (Ks.tok _ _), rfl⟩
theorem Tx.bool {e : Expr} {b : Bool} (h : Ex C N ρ μ k e (.bool b)) (he : ∀ env (w : Sem Value), isTrue e env w = (do let v ← w; standAt e.pos; holding [v] (truthy v)) := by intro _ _; rfl) : Tx C N ρ μ k e b := by
  intro env ok A s P
  refine wpAny_isTrue_value (wpAny_mono (h env ok A s P) (fun v s₁ y => ?_) fun _ _ e => e) (he env _)
  obtain ⟨y, e⟩ := y
  simp only [Den] at e
  subst e
  exact wpAny_truthy_bool ⟨y, rfl⟩
theorem Ex.orInt {x y : Expr} {pos : Pos} {i : Int} {d : D} (h : Ex C N ρ μ k x (.int i)) (h1 : i ≠ 0 → d = .int i) (h2 : i = 0 → Ex C N ρ μ k y d) : Ex C N ρ μ k (.BoolOp .Or [x, y] pos) d := by
  intro env ok A s P
  refine wpAny_Or2 (wpAny_mono (h env ok A s P) (fun v s₁ z => ?_) fun _ _ e => e)
  obtain ⟨z, t, rfl⟩ := z
  refine truthy_int ?_
  by_cases hi : i = 0
  · have : (i != 0) = false := by simp [hi]
    rw [this]
    simp only [Bool.false_eq_true, if_false]
    exact wpAny_mono (h2 hi env ok A s₁ (P.keeps z)) (fun v s₂ q => ⟨z.trans q.1, q.2⟩) fun _ _ e => e
  · have : (i != 0) = true := by simp [hi]
    rw [this, h1 hi]
    exact ⟨z, den_int⟩
theorem Tx.cmpW {l r : Expr} {op : CmpOp} {pos : Pos} {d₁ d₂ : D} {b : Bool} (h₁ : Ew C N ρ μ k l d₁) (h₂ : Ew C N ρ μ k r d₂) (h : Cmp C k op d₁ d₂ b) (hm : behindInMarks op r = false := by with_unfolding_all rfl) : Tx C N ρ μ k (.Compare l [op] [r] pos) b := by
  intro env ok A s P
  refine wpAny_isTrue_Compare1 (wpAny_mono (h₁ env ok A s P) (fun v s₁ x => ?_) fun _ _ e => e) hm
  refine wpAny_mono (h₂ env ok A s₁ (P.keeps x.1)) (fun u s₂ y => ?_) fun _ _ e => e
  have P₂ := (P.keeps x.1).keeps y.1
  refine wpAny_mono (h T A s₂ v u P₂.rm P₂.base (x.2.keeps y.1.keep) y.2) (fun v' s₃ z => ?_) fun _ _ e => e
  rw [z.2]
  exact wpAny_truthy_bool ⟨(x.1.trans y.1).trans z.1, rfl⟩

/-! lists are like -/
noncomputable def eqD : D → D → Bool
  | .int i, .int j => i == j
  | .str x, .str y => x == y
  | _, _ => false
/-- data that may be held against each other -/
noncomputable def like : D → D → Bool
  | .int _, .int _ => true
  | .str _, .str _ => true
  | _, _ => false
theorem like_inv {d e : D} (h : like d e = true) : (∃ i j, d = .int i ∧ e = .int j) ∨ ∃ x y, d = .str x ∧ e = .str y := by
  cases d with
  | int i => cases e with
    | int j => exact .inl ⟨i, j, rfl, rfl⟩
    | _ => exact (nomatch (show false = true from h))
  | str x => cases e with
    | str y => exact .inr ⟨x, y, rfl, rfl⟩
    | _ => exact (nomatch (show false = true from h))
  | _ => exact (nomatch (show false = true from h))
theorem eqAt_of {ok : Addr → Prop} {h : Heap} {A : Around} {s : Shared} {d e : D} {v u : Value} (hl : like d e = true) (x : Den ok h d v) (y : Den ok h e u) : SeqAt.EqAt A s v u (eqD d e) := by
  rcases like_inv hl with ⟨i, j, rfl, rfl⟩ | ⟨i, j, rfl, rfl⟩
  · obtain ⟨t, rfl⟩ := x; obtain ⟨t', rfl⟩ := y; exact SeqAt.EqAt.int_int _ _ _ _
  · obtain ⟨t, rfl⟩ := x; obtain ⟨t', rfl⟩ := y; exact SeqAt.EqAt.str_str _ _ _ _
noncomputable def eqL : List D → List D → Bool
  | [], [] => true
  | a :: as, b :: bs => eqD a b && eqL as bs
  | _, _ => false
theorem eqL_range : ∀ (as bs : List D), as.length = bs.length → (List.range as.length).all (fun i => eqD (as[i]?.getD .none) (bs[i]?.getD .none)) = eqL as bs
  | [], [], _ => rfl
  | [], _ :: _, h => by simp at h
  | _ :: _, [], h => by simp at h
  | a :: as, b :: bs, h => by
    simp only [eqL, List.length_cons, List.range_succ_eq_map, List.all_cons, List.all_map, Function.comp_def, List.getElem?_cons_zero, Option.getD_some, List.getElem?_cons_succ]
    rw [eqL_range as bs (by simpa using h)]
theorem eqL_len : ∀ (as bs : List D), as.length ≠ bs.length → eqL as bs = false
  | [], [], h => by simp at h
  | [], _ :: _, _ => rfl
  | _ :: _, [], _ => rfl
  | a :: as, b :: bs, h => by simp only [eqL]; rw [eqL_len as bs (by simpa using h)]; simp
theorem list_rc {ok : Addr → Prop} {A : Around} {s : Shared} {as bs : List D} {v u : Value} (hl : ∀ a ∈ as, ∀ b ∈ bs, like a b = true) (hu : A.units < cLine) (x : Den ok s.heap (.list as) v) (y : Den ok s.heap (.list bs) u) :
    SeqAt.RcAt A s v u (eqL as bs) ∧ SeqAt.RcNeAt A s v u (!eqL as bs) := by
  obtain ⟨a, its, rfl, l1, z1⟩ := den_list x
  obtain ⟨b, its2, rfl, l2, z2⟩ := den_list y
  have e1 : as.length = its.size := by rw [z1.length, Array.length_toList]
  have e2 : bs.length = its2.size := by rw [z2.length, Array.length_toList]
  by_cases hsz : its.size = its2.size
  · have he : ∀ j (h1 : j < its.size) (h2 : j < its2.size), SeqAt.EqAt A.in1 s its[j] its2[j] (eqD (as[j]?.getD .none) (bs[j]?.getD .none)) := fun j h1 h2 => by
      have j1 : j < as.length := by lia
      have j2 : j < bs.length := by lia
      rw [List.getElem?_eq_getElem j1, List.getElem?_eq_getElem j2]
      exact eqAt_of (hl _ (List.getElem_mem j1) _ (List.getElem_mem j2)) (z1.at (List.getElem?_eq_getElem j1) (by simp [h1])) (z2.at (List.getElem?_eq_getElem j2) (by simp [h2]))
    have r := eqL_range as bs (by lia)
    rw [e1] at r
    have q1 := SeqAt.RcAt.lists l1 l2 hsz hu he
    have q2 := SeqAt.RcNeAt.lists l1 l2 hsz hu he
    rw [r] at q1 q2
    exact ⟨q1, q2⟩
  · have hne : (its.size != its2.size) = true := by simpa using hsz
    rw [eqL_len as bs (by lia)]
    exact ⟨SeqAt.RcAt.lists_lengths l1 l2 hne hu, SeqAt.RcNeAt.lists_lengths l1 l2 hne hu⟩
theorem Rm.room {A : Around} (h : Rm k A) : A.units < cLine := by have := h.units; simp only [cLine]; lia
theorem Cmp.eqList {as bs : List D} (hl : ∀ a ∈ as, ∀ b ∈ bs, like a b = true) : Cmp C k .Eq (.list as) (.list bs) (eqL as bs) := fun ok A s v u hr hb x y =>
  (list_rc hl hr.room x y).1 C.prog C.w nox _ ⟨Ks.refl s, rfl⟩
theorem Cmp.neList {as bs : List D} (hl : ∀ a ∈ as, ∀ b ∈ bs, like a b = true) : Cmp C k .NotEq (.list as) (.list bs) (!eqL as bs) := fun ok A s v u hr hb x y =>
  (list_rc hl hr.room x y).2 C.prog C.w nox _ ⟨Ks.refl s, rfl⟩
theorem like_uniq {ok : Addr → Prop} {h : Heap} {a b d : D} {w : Value} (h1 : like a d = true) (h2 : like b d = true) (q1 : Den ok h a w) (q2 : Den ok h b w) : eqD a d = eqD b d := by
  rcases like_inv h1 with ⟨i, j, rfl, rfl⟩ | ⟨i, j, rfl, rfl⟩
  · rcases like_inv h2 with ⟨i', j', rfl, e⟩ | ⟨i', j', rfl, e⟩
    · obtain ⟨t, rfl⟩ := q1; obtain ⟨t', q2⟩ := q2; cases q2; rfl
    · cases e
  · rcases like_inv h2 with ⟨i', j', rfl, e⟩ | ⟨i', j', rfl, e⟩
    · cases e
    · obtain ⟨t, rfl⟩ := q1; obtain ⟨t', q2⟩ := q2; cases q2; rfl
theorem Cmp.inList {as : List D} {d : D} (hl : ∀ a ∈ as, like a d = true) : Cmp C k .In d (.list as) (as.any fun a => eqD a d) := by
  intro ok A s v u hr hb x y
  obtain ⟨a, its, rfl, l1, z1⟩ := den_list y
  have hin : ∀ (i : Nat) (h : i < its.size), ∃ e, as[i]? = some e ∧ Den ok s.heap e its[i] := fun i h => by
    have e1 : as.length = its.size := by rw [z1.length, Array.length_toList]
    have h' : i < as.length := by lia
    exact ⟨as[i], List.getElem?_eq_getElem h', z1.at (List.getElem?_eq_getElem h') (by simp [h])⟩
  classical
  let e : Value → Bool := fun w => decide (∃ a ∈ as, Den ok s.heap a w ∧ eqD a d = true)
  have uniq : ∀ (a b : D) (w : Value), like a d = true → like b d = true → Den ok s.heap a w → Den ok s.heap b w → eqD a d = eqD b d := by
    intro a b w h1 h2 q1 q2
    exact like_uniq h1 h2 q1 q2
  refine SeqAt.in_listAt e l1 (fun w hw => ?_) ⟨Ks.refl s, ?_⟩
  · obtain ⟨i, hi, rfl⟩ := Array.mem_iff_getElem.mp hw
    obtain ⟨a, ha, hd⟩ := hin i hi
    have hm := List.mem_of_getElem? ha
    have : e its[i] = eqD a d := by
      show decide _ = _
      by_cases q : eqD a d = true
      · rw [q]; exact decide_eq_true ⟨a, hm, hd, q⟩
      · have : eqD a d = false := by simpa using q
        rw [this]
        refine decide_eq_false ?_
        rintro ⟨b, hb, hbd, hbe⟩
        rw [uniq a b _ (hl a hm) (hl b hb) hd hbd] at this
        rw [this] at hbe; cases hbe
    rw [this]
    exact eqAt_of (hl a hm) hd x
  · congr 1
    rw [Bool.eq_iff_iff, Array.any_eq_true, List.any_eq_true]
    constructor
    · rintro ⟨i, hi, he⟩
      obtain ⟨b, hb, hbd, hbe⟩ := of_decide_eq_true he
      exact ⟨b, hb, hbe⟩
    · rintro ⟨a, ha, he⟩
      obtain ⟨i, hi, rfl⟩ := List.mem_iff_getElem.mp ha
      have e1 : as.length = its.size := by rw [z1.length, Array.length_toList]
      refine ⟨i, by lia, decide_eq_true ⟨as[i], ha, z1.at (List.getElem?_eq_getElem hi) (by simp [show i < its.size by lia]), he⟩⟩
end Mine
end

/-! Calc16 -/
section
namespace Mine
variable {C : Cx} {N : List (Str × NameKind)} {ρ ρ' : List (Str × D)} {μ μ' : List (Str × List D)} {k : Nat} {Q : Post} {ss : List Stmt}

theorem Ex.lower {o : Expr} {pa pos : Pos} {x : Str} (h : Ex C N ρ μ k o (.str x)) (hfit : PySem.Builtin.Str.tooLong (Txt.lower x).length = false) (hline : (pa.endLine == pos.line) = true := by rfl) (hb : ∀ env, attributeBase o (Str.ofString "lower") env (eval o env) = eval o env := by intro _; rfl) :
    Ex C N ρ μ k (.Call (.Attribute o (Str.ofString "lower") pa) [] [] pos) (.str (Txt.lower x)) := by
  intro env ok A s P
  refine Call_method0 (hb env) hline (wpAny_mono (h env ok A s P) (fun v s₁ y => ?_) fun _ _ e => e)
  obtain ⟨y, t, rfl⟩ := y
  exact SB.lower hfit ⟨y.trans (Ks.tok _ _), den_str⟩
/-- a text's method with one argument -/
theorem Ex.strMeth1 {o e : Expr} {name : Str} {id : String} {pa pos : Pos} {x : Str} {d₁ d : D} (slot : Slot "str" name id) (ty : typeOf (.builtin id) = pure (.type "method_descriptor")) (h : Ex C N ρ μ k o (.str x)) (he : Ew C N ρ μ k e d₁) (hc : Clv C k (.builtin id) [.str x, d₁] d)
    (hline : (pa.endLine == pos.line) = true := by rfl) (hb : ∀ env, attributeBase o name env (eval o env) = eval o env := by intro _; rfl) (hs : ∀ env, starEach [e] env = [(false, eval e env)] := by intro _; rfl) : Ex C N ρ μ k (.Call (.Attribute o name pa) [e] [] pos) d := by
  intro env ok A s P
  refine Call_method1 (hb env) (hs env) hline (wpAny_mono (h env ok A s P) (fun v s₁ y => ?_) fun _ _ e => e)
  obtain ⟨y, t, rfl⟩ := y
  refine ⟨"str", id, F.plainAttrs_str, slot, ty, typeIs_str _ _ _, (fun _ e => nomatch e), Calls.callWith_builtin rfl (Calls.evalArgs_plain (Calls.spliced_cons (wpAny_mono (he env ok A s₁ (P.keeps y)) (fun v s₂ z => Calls.spliced_nil ?_) fun _ _ e => e)))⟩
  have P₂ := (P.keeps y).keeps z.1
  refine wpAny_mono (hc ok A s₂ [.str x t, v] P₂.rm P₂.base P₂.new ?_) (fun r s₃ q => ⟨(y.trans z.1).trans q.1, q.2⟩) fun _ _ e => e
  simp only [DenL]
  exact ⟨_, _, rfl, den_str, _, _, rfl, z.2, rfl⟩
theorem strsAre_of {ok : Addr → Prop} {h : Heap} : ∀ {xs : List Str} {vs : List Value}, DenL ok h (xs.map D.str) vs → StrsAre vs xs
  | [], vs, x => by simp only [List.map_nil, DenL] at x; subst x; exact .nil
  | y :: ys, vs, x => by
    simp only [List.map_cons, DenL] at x
    obtain ⟨v, vs', rfl, ⟨t, rfl⟩, r⟩ := x
    exact .cons _ _ (strsAre_of r)
theorem Clv.join {xs : List Str} (hw : (xs.map (·.length)).sum ≤ 16777216) : Clv C k (.builtin "str.join") [.str ⟨#[]⟩, .list (xs.map D.str)] (.str (Txt.join ⟨#[]⟩ xs)) := by
  intro ok A s vs hr hb hn hv
  obtain ⟨v, v', rfl, ⟨t, rfl⟩, hd⟩ := den2 hv
  obtain ⟨a, its, rfl, l, z⟩ := den_list hd
  exact join_list l (strsAre_of z) (by simpa [Str.length] using hw) fun t' tk => ⟨Ks.tok s tk, den_str⟩
/-! sums and greatest -/
theorem sum_pre (xs : List Int) : ∀ n, n ≤ xs.length → preSum (fun i => xs[i]?.getD 0) n = (xs.take n).sum
  | 0, _ => by simp [preSum]
  | n + 1, h => by
    have hn : n < xs.length := by lia
    rw [preSum, sum_pre xs n (by lia), List.take_add_one, List.getElem?_eq_getElem hn]
    simp only [Option.getD_some, Option.toList_some, List.sum_append, List.sum_cons, List.sum_nil, Int.add_zero]
theorem ints_at {ok : Addr → Prop} {h : Heap} {xs : List Int} {items : Array Value} (z : DenL ok h (xs.map D.int) items.toList) {i : Nat} {v : Value} (e : items[i]? = some v) : ∃ t, v = .int (xs[i]?.getD 0) t := by
  have hlen : xs.length = items.size := by have := z.length; simpa using this
  have hi : i < xs.length := by rw [hlen]; exact (Array.getElem?_eq_some_iff.mp e).1
  have := z.at (i := i) (d := .int xs[i]) (by simp [hi]) (by simpa using e)
  rw [List.getElem?_eq_getElem hi, Option.getD_some]
  simpa only [Den] using this
theorem Clv.sum {xs : List Int} : Clv C k (.builtin "sum") [.list (xs.map D.int)] (.int xs.sum) := by
  intro ok A s vs hr hb hn hv
  obtain ⟨v, rfl, hd⟩ := den1 hv
  obtain ⟨a, its, rfl, l, z⟩ := den_list hd
  have hne : a ≠ s.heap.objs.size := by obtain ⟨o, ho, _⟩ := l; exact Nat.ne_of_lt (lt_of_get ho)
  have hlen : xs.length = its.size := by have := z.length; simpa using this
  refine call_sum_walkG (wpAny_pyIter_list l ⟨_, [s.heap.objs.size, a], [s.heap.objs.size], its.size, _, _, (fun i => xs[i]?.getD 0), rfl, Walks.list (A := A.in1) hr.hand _ a hne its, ⟨⟨_, Heap.get?_push_size _ rfl, rfl, rfl⟩, l.push _⟩, ?_, fun i v e => ints_at z e, fun h' tk t' hk => ⟨⟨h', tk, rfl, fun b o e => hk b o ?_ (Heap.get?_push_of_some _ e)⟩, ?_⟩⟩)
  · intro b hb
    show b < (s.heap.push _).objs.size
    rw [Heap.size_push]
    rcases List.mem_cons.mp hb with rfl | hb
    · exact Nat.lt_succ_self _
    · simp at hb; subst hb; obtain ⟨o, ho, _⟩ := l; exact Nat.lt_succ_of_lt (lt_of_get ho)
  · intro q; simp at q; rw [q, get_size] at e; cases e
  · rw [← hlen, sum_pre xs _ (Nat.le_refl _), List.take_length]; exact den_int
/-- the greatest of a list -/
noncomputable def maxL : List Int → Int
  | [] => 0
  | x :: xs => xs.foldl max x
theorem argBest_max (xs : List Int) : ∀ n, n < xs.length → argBest (fun i j => decide (xs[i]?.getD 0 > xs[j]?.getD 0)) n < xs.length ∧ xs[argBest (fun i j => decide (xs[i]?.getD 0 > xs[j]?.getD 0)) n]?.getD 0 = maxL (xs.take (n + 1))
  | 0, h => by
    cases xs with
    | nil => simp at h
    | cons x xs => simp [argBest, maxL]
  | n + 1, h => by
    obtain ⟨h1, h2⟩ := argBest_max xs n (by lia)
    have hx : xs ≠ [] := fun q => by rw [q] at h; simp at h
    have ht : maxL (xs.take (n + 1 + 1)) = max (maxL (xs.take (n + 1))) (xs[n + 1]?.getD 0) := by
      rw [List.take_add_one (i := n + 1), List.getElem?_eq_getElem h]
      cases xs with
      | nil => simp at h
      | cons x xs =>
        simp only [List.take_succ_cons, Option.toList_some, List.cons_append, maxL, List.foldl_append, List.foldl_cons, List.foldl_nil, Option.getD_some]
    unfold argBest
    rw [ht]
    split
    · rename_i q
      have q := of_decide_eq_true q
      refine ⟨h, ?_⟩
      rw [h2] at q
      lia
    · rename_i q
      have q := of_decide_eq_false ((Bool.not_eq_true _).mp q)
      refine ⟨h1, ?_⟩
      rw [h2] at q ⊢
      lia
theorem Clv.max1 {xs : List Int} (h0 : xs ≠ []) : Clv C k (.builtin "max") [.list (xs.map D.int)] (.int (maxL xs)) := by
  intro ok A s vs hr hb hn hv
  obtain ⟨v, rfl, hd⟩ := den1 hv
  obtain ⟨a, its, rfl, l, z⟩ := den_list hd
  have hne : a ≠ s.heap.objs.size := by obtain ⟨o, ho, _⟩ := l; exact Nat.ne_of_lt (lt_of_get ho)
  have hlen : xs.length = its.size := by have := z.length; simpa using this
  have hpos : 0 < xs.length := List.length_pos_iff.mpr h0
  refine call_max_walk (wpAny_pyIter_list l ⟨_, [s.heap.objs.size, a], [s.heap.objs.size], its.size, (fun i v => its[i]? = some v), _, _, rfl, Walks.list (A := A.in1) hr.hand _ a hne its, ⟨⟨_, Heap.get?_push_size _ rfl, rfl, rfl⟩, l.push _⟩, ?_, by lia, CmpOf.ints_gt (fun i => xs[i]?.getD 0) (fun i v e => ints_at z e), fun v h' tk hP hk => ⟨⟨h', tk, rfl, fun b o e => hk b o ?_ (Heap.get?_push_of_some _ e)⟩, ?_⟩⟩)
  · intro b hb
    show b < (s.heap.push _).objs.size
    rw [Heap.size_push]
    rcases List.mem_cons.mp hb with rfl | hb
    · exact Nat.lt_succ_self _
    · simp at hb; subst hb; obtain ⟨o, ho, _⟩ := l; exact Nat.lt_succ_of_lt (lt_of_get ho)
  · intro q; simp at q; rw [q, get_size] at e; cases e
  · obtain ⟨t, rfl⟩ := ints_at z hP
    rw [← hlen, (argBest_max xs (xs.length - 1) (by lia)).2, show xs.length - 1 + 1 = xs.length by lia, List.take_length]
    exact den_int
end Mine
end

/-! W1 -/
section
namespace Mine
variable {C : Cx} {N : List (Str × NameKind)} {ρ ρ' : List (Str × D)} {μ μ' : List (Str × List D)} {k : Nat} {Q : Post} {ss : List Stmt}

noncomputable def topSt (i : Nat) : Stmt := (PySem.Challenge.pw_qu0068_01.main.body[i]?).getD (.Pass ⟨0, 0, 0, 0⟩)
noncomputable def bodyOf : Stmt → List Stmt
  | .FunctionDef _ _ body _ _ _ _ _ _ _ => body
  | _ => []
noncomputable def namesOf : Stmt → List (Str × NameKind)
  | .FunctionDef _ _ _ _ _ _ scope _ _ _ => scope.names
  | _ => []
noncomputable def fnB (i : Nat) : List Stmt := bodyOf (topSt i)
noncomputable def fnN (i : Nat) : List (Str × NameKind) := namesOf (topSt i)

/-- what the top's names hold -/
structure Tp (C : Cx) : Prop where
  case_ : ∃ t, C.G (Str.ofString "_CASE_COST") = some (.int 1 t)
  move : ∃ t, C.G (Str.ofString "_MOVE_COST") = some (.int 2 t)
  most : ∃ t, C.G (Str.ofString "_MAX_STRING_SIZE") = some (.int 40 t)
  range : C.G (Str.ofString "range") = none ∧ C.B (Str.ofString "range") = some (.type "range")

noncomputable def subC (a b : Str) : Int := if a == b then 0 else if Txt.lower a == Txt.lower b then 1 else 2
theorem Tp.ints {x : Str} {i : Int} {pos : Pos} (h : ∃ t, C.G x = some (.int i t)) (hx : N.lookup x = some .globalImplicit) (hd : (x == ("__debug__" : Str)) = false := by decide) : Ex C N ρ μ k (.Name x pos) (.int i) := by
  obtain ⟨t, h⟩ := h
  exact Ex.global hx h (fun ok h => den_int) hd
theorem walk_sub (H : Tp C) {a b : Str} (ha : Builtin.Str.tooLong (Txt.lower a).length = false) (hb : Builtin.Str.tooLong (Txt.lower b).length = false) :
    Sx C (fnN 12) ([Str.ofString "ch_a", Str.ofString "ch_b"].zip [.str a, .str b]) [] k (fnB 12) ⟨fun _ _ => False, fun r => r = .int (subC a b), fun _ _ => False⟩ := by
  refine Sx.ifLeave (c := a == b) (Tx.cmp (Ex.name rfl) (Ex.name rfl) Cmp.eqStr) (fun e => ?_) (fun e => ?_)
  · exact Sx.ret Ex.int trivial (by unfold subC; rw [e]; rfl)
  refine Sx.ifLeave (c := Txt.lower a == Txt.lower b) (Tx.cmp (Ex.lower (Ex.name rfl) ha) (Ex.lower (Ex.name rfl) hb) Cmp.eqStr) (fun e' => ?_) (fun e' => ?_)
  · exact Sx.ret (Tp.ints H.case_ rfl) trivial (by unfold subC; rw [e, e']; rfl)
  · exact Sx.ret (Tp.ints H.move rfl) trivial (by unfold subC; rw [e, e']; rfl)
end Mine
end

/-! W2 -/
section
namespace Mine
variable {C : Cx} {N : List (Str × NameKind)} {ρ ρ' : List (Str × D)} {μ μ' : List (Str × List D)} {k : Nat} {Q : Post} {ss : List Stmt}

theorem mul_small {a b : Int} (h : b.natAbs < 2 ^ 60) : IntMulOk a b := by
  refine IntMulOk.of_right ?_
  unfold Builtin.Int.intBits
  split
  · lia
  · rename_i q
    have : b.natAbs.log2 < 60 := (Nat.log2_lt (by simpa using q)).mpr h
    lia
/-- the column behind a sign -/
noncomputable def colStep (size : Int) (col : Int) (c : Nat) : Int := if (⟨#[c]⟩ : Str) == Str.ofString " " then col + 1 else (col.fdiv size + 1) * size
noncomputable def colOf (x : Str) (size : Int) : Int := x.cps.toList.foldl (colStep size) 0
noncomputable def colsOf (x : Str) (most : Int) : List Int := (List.range most.toNat).map fun (i : Nat) => colOf x (i + 1)
theorem sub_refl {α : Type} (p : List (Str × α)) : SubE p p := fun _ _ e => e
theorem SubE.nil {α : Type} {q : List (Str × α)} : SubE [] q := fun _ _ e => by cases e
theorem SubE.cons {α : Type} {x : Str} {d : α} {p q : List (Str × α)} (h : q.lookup x = some d) (r : SubE p q) : SubE ((x, d) :: p) q := fun y e he => by
  by_cases hy : y = x
  · subst hy; simp only [List.lookup_cons, beq_self_eq_true] at he; cases he; exact h
  · rw [lookup_cons_ne hy] at he; exact r y e he
theorem rangeD_get {a b : Int} {i : Nat} {d : D} (h : (rangeD a b)[i]? = some d) : d = .int (a + i) ∧ (i : Int) < b - a := by
  have hi := (List.getElem?_eq_some_iff.mp h).1
  simp only [rangeD, List.length_map, List.length_range] at hi
  simp only [rangeD, List.getElem?_map, List.getElem?_range hi, Option.map_some] at h
  cases h
  exact ⟨rfl, by lia⟩
theorem signsD_get {x : Str} {i : Nat} {d : D} (h : (signsD x)[i]? = some d) : ∃ c, x.cps.toList[i]? = some c ∧ d = .str ⟨#[c]⟩ := by
  simp only [signsD, List.getElem?_map] at h
  obtain ⟨c, h1, h2⟩ := Option.map_eq_some_iff.mp h
  exact ⟨c, h1, h2.symm⟩
theorem walk_columns (H : Tp C) {x : Str} {most : Int} (hx : x.length ≤ 1000) (h0 : 0 ≤ most) (h1 : most ≤ 1000) :
    Sx C (fnN 15) ([Str.ofString "lead", Str.ofString "most"].zip [.str x, .int most]) [] k (fnB 15) ⟨fun _ _ => False, fun r => r = .list ((colsOf x most).map D.int), fun _ _ => False⟩ := by
  refine Sx.assignF (Fx.list ExL.nil) ?_
  refine Sx.for_ (σ := Nat) (fun i st => st = i) (fun _ => [(Str.ofString "lead", .str x), (Str.ofString "most", .int most)]) (fun st => [(Str.ofString "columns", (((List.range st).map fun (i : Nat) => colOf x (i + 1)).map D.int))]) (fun _ _ => False)
    (Ixo.range2 (Vx.builtin rfl H.range.1 H.range.2) Ex.int (Ex.bin (Ex.name rfl) Ex.int Bin.add) (by decide) (by decide) (by lia) (by lia) (by lia)) 0 rfl (fun y d e => ?_) (sub_refl _) ?_ ?_ (fun _ _ e => e.elim)
  · exact e
  · intro i d st hd hst
    subst hst
    obtain ⟨rfl, hi⟩ := rangeD_get hd
    rw [Int.add_comm]
    refine Sx.assign Ex.int ?_
    refine Sx.for_ (σ := Int) (fun j c => c = (x.cps.toList.take j).foldl (colStep (st + 1)) 0 ∧ 0 ≤ c ∧ c ≤ j * (st + 1)) (fun c => [(Str.ofString "column", .int c), (Str.ofString "size", .int (st + 1)), (Str.ofString "lead", .str x), (Str.ofString "most", .int most)])
      (fun _ => [(Str.ofString "columns", (((List.range st).map fun (i : Nat) => colOf x (i + 1)).map D.int))]) (fun _ _ => False)
      (Ixo.str (Ex.name rfl) (by simp only [sizeLine]; lia)) 0 ⟨by simp, by lia, by lia⟩ ?_ (sub_refl _) ?_ ?_ (fun _ _ e => e.elim)
    · exact SubE.cons rfl (SubE.cons rfl (SubE.cons rfl (SubE.cons rfl SubE.nil)))
    · rintro j d c hd ⟨hc, hc0, hc1⟩
      obtain ⟨ch, hch, rfl⟩ := signsD_get hd
      have hj : j < x.length := by have := (List.getElem?_eq_some_iff.mp hch).1; simpa [Str.length] using this
      have hstep : (x.cps.toList.take (j + 1)).foldl (colStep (st + 1)) 0 = colStep (st + 1) c ch := by
        rw [List.take_add_one, hch, List.foldl_append, ← hc]; rfl
      have hfd : c.fdiv ((st : Int) + 1) = c / ((st : Int) + 1) := Int.fdiv_eq_ediv_of_nonneg _ (by lia)
      have hdv : 0 ≤ c / ((st : Int) + 1) := Int.ediv_nonneg hc0 (by lia)
      have hmul : (c / ((st : Int) + 1)) * ((st : Int) + 1) ≤ c := Int.ediv_mul_le _ (by lia)
      refine Sx.assign (d := .int (colStep (st + 1) c ch)) (Ex.ifExp (Tx.cmp (Ex.name rfl) Ex.str Cmp.eqStr) (fun e => ?_) (fun e => ?_)) ?_
      · unfold colStep
        have e' : ((⟨#[ch]⟩ : Str) == Str.ofString " ") = true := e
        rw [e', if_pos rfl]
        exact Ex.bin (Ex.name rfl) Ex.int Bin.add
      · unfold colStep
        have e' : ((⟨#[ch]⟩ : Str) == Str.ofString " ") = false := e
        rw [e', if_neg (by decide)]
        exact Ex.bin (Ex.bin (Ex.bin (Ex.name rfl) (Ex.name rfl) (Bin.fdiv (by lia) (PyProof.noPylong_small (by lia)))) Ex.int Bin.add) (Ex.name rfl) (Bin.mul (mul_small (by lia)))
      · refine Sx.nil ⟨colStep (st + 1) c ch, ⟨hstep.symm, ?_, ?_⟩, SubE.cons rfl (SubE.cons rfl (SubE.cons rfl (SubE.cons rfl SubE.nil))), SubE.cons rfl SubE.nil⟩
        · unfold colStep
          split
          · lia
          · rw [hfd]; exact Int.mul_nonneg (by lia) (by lia)
        · have e1 : ((j + 1 : Nat) : Int) * ((st : Int) + 1) = j * (st + 1) + (st + 1) := by rw [Int.natCast_add, Int.add_mul]; simp
          rw [e1]
          unfold colStep
          split
          · lia
          · rw [hfd, Int.add_mul]; lia
    · rintro c ⟨hc, hc0, hc1⟩
      refine Sx.append rfl (flat_ints _) (Ex.name rfl) trivial (by simp [sizeLine]; lia) ?_
      refine Sx.nil ⟨st + 1, rfl, SubE.cons rfl (SubE.cons rfl SubE.nil), SubE.cons ?_ SubE.nil⟩
      have hl : (signsD x).length = x.cps.toList.length := by simp [signsD]
      rw [hl, List.take_length] at hc
      simp only [List.lookup_cons, beq_self_eq_true, Option.some.injEq]
      rw [List.range_succ, List.map_append, List.map_append, hc]
      rfl
  · intro st hst
    refine Sx.retM rfl (flat_ints _) ?_
    subst hst
    unfold colsOf rangeD
    simp
end Mine
end

/-! Calc17 -/
section
namespace Mine
variable {C : Cx} {N : List (Str × NameKind)} {ρ ρ' : List (Str × D)} {μ μ' : List (Str × List D)} {k : Nat} {Q : Post} {ss : List Stmt}

theorem small_two {a b : Int} (ha : 0 ≤ a) (ha' : a < 2 ^ 60) (hb : 0 ≤ b) (hb' : b < 2 ^ 61) : Builtin.Range.small a b 2 = true := by
  unfold Builtin.Range.small Builtin.Range.rangeSize
  simp only [Builtin.Range.rangeFitsLong, Bool.and_eq_true, Bool.or_eq_true, decide_eq_true_eq, beq_iff_eq, show (2 : Int) > 0 by decide, if_true]
  split <;> lia
/-- list(range(a, b, 2)) -/
theorem Fx.listRange {f g e1 e2 e3 : Expr} {pos pos' : Pos} {a b : Int} {n : Nat} (hf : Vx C N ρ μ k f (.type "list")) (hg : Vx C N ρ μ k g (.type "range")) (h1 : Ex C N ρ μ k e1 (.int a)) (h2 : Ex C N ρ μ k e2 (.int b)) (h3 : Ex C N ρ μ k e3 (.int 2))
    (ha : 0 ≤ a) (ha' : a < 2 ^ 60) (hb : b = a + 2 * n) (hn : n ≤ 1000)
    (hc : ∀ env, eval (.Call g [e1, e2, e3] [] pos') env = (do callWith pos' (← eval g env) [] (backTo pos' (starEach [e1, e2, e3] env)) (backToKw pos' (keywordEach [] env))) := by intro _; rfl)
    (hd : ∀ env, eval (.Call f [.Call g [e1, e2, e3] [] pos'] [] pos) env = (do callWith pos (← eval f env) [] (backTo pos (starEach [.Call g [e1, e2, e3] [] pos'] env)) (backToKw pos (keywordEach [] env))) := by intro _; rfl)
    (s1 : ∀ env, starEach [e1, e2, e3] env = (false, eval e1 env) :: starEach [e2, e3] env := by intro _; rfl) (s2 : ∀ env, starEach [e2, e3] env = (false, eval e2 env) :: starEach [e3] env := by intro _; rfl) (s3 : ∀ env, starEach [e3] env = (false, eval e3 env) :: starEach [] env := by intro _; rfl) :
    Fx C N ρ μ k (.Call f [.Call g [e1, e2, e3] [] pos'] [] pos) ((List.range n).map fun (i : Nat) => D.int (a + i * 2)) := by
  refine ⟨fun d hd => by obtain ⟨i, _, rfl⟩ := List.mem_map.mp hd; trivial, fun env ok A s P => ?_⟩
  rw [hd env]
  refine wpAny_bind (wpAny_mono (hf env ok A s P) (fun v s₁ x => ?_) fun _ _ e => e)
  obtain ⟨x, rfl⟩ := x
  refine callWith_type1 (wpAny_items_cons ?_ rfl) rfl rfl
  rw [hc env]
  refine wpAny_bind (wpAny_mono (hg env ok A s₁ (P.keeps x)) (fun v s₂ y => ?_) fun _ _ e => e)
  obtain ⟨y, rfl⟩ := y
  have P2 := (P.keeps x).keeps y
  refine callWith_type1 (wpAny_items_cons (wpAny_mono (h1 env ok A s₂ P2) (fun v1 s₃ z1 => ?_) fun _ _ e => e) (s1 env)) (s1 env) (by rw [s2 env, s3 env]; rfl)
  refine wpAny_items_cons (wpAny_mono (h2 env ok A s₃ (P2.keeps z1.1)) (fun v2 s₄ z2 => ?_) fun _ _ e => e) (s2 env)
  refine wpAny_items_cons (wpAny_mono (h3 env ok A s₄ ((P2.keeps z1.1).keeps z2.1)) (fun v3 s₅ z3 => wpAny_items_nil ?_) fun _ _ e => e) (s3 env)
  obtain ⟨z1, t1, rfl⟩ := z1
  obtain ⟨z2, t2, rfl⟩ := z2
  obtain ⟨z3, t3, rfl⟩ := z3
  have K5 := (((x.trans y).trans z1).trans z2).trans z3
  refine call_range_3 (by decide) (wpAny_items_nil ?_) (.inl (PyProof.noPylong_small (by decide)))
  have hK : Ks s { s₅ with heap := s₅.heap.push { cls := .type "range", data := .fields #[.int a t1, .int b t2, .int 2 t3] }, toks := s₅.toks } := K5.trans ⟨_, _, rfl, fun _ _ e => Heap.get?_push_of_some _ e⟩
  refine call_list_range (n := n) P.rm.hand (IsRange.new ..) (small_two ha ha' (by lia) (by lia)) ?_ (by lia) fun h' tk acc c' hk hl hi => ⟨hK.trans ⟨h', tk, rfl, hk⟩, _, acc, rfl, none_keep hK.keep (get_size _), ⟨c', hl⟩, ?_⟩
  · unfold Builtin.Range.rangeSize
    rw [if_pos (by decide)]
    split
    · lia
    · lia
  · refine denL_of ?_ fun i d v e1 e2 => ?_
    · simp [hi.1]
    · simp only [List.getElem?_map] at e1
      obtain ⟨j, hj, rfl⟩ := Option.map_eq_some_iff.mp e1
      have : j = i := by
        have h := (List.getElem?_eq_some_iff.mp hj)
        obtain ⟨_, h⟩ := h
        simpa using h.symm
      subst this
      obtain ⟨t, rfl⟩ := hi.2 j v (by simpa using e2)
      exact den_int
end Mine
end

/-! W3 -/
section
namespace Mine
variable {C : Cx} {N : List (Str × NameKind)} {ρ ρ' : List (Str × D)} {μ μ' : List (Str × List D)} {k : Nat} {Q : Post} {ss : List Stmt}

noncomputable def S (l : List Nat) : Str := ⟨l.toArray⟩
theorem S_len (l : List Nat) : (S l).length = l.length := by simp [S, Str.length]
theorem S_get (l : List Nat) (i : Nat) : (S l).cps[i]? = l[i]? := by simp [S]
theorem S_beq (a b : List Nat) : (S a == S b) = decide (a = b) := by
  by_cases h : a = b
  · subst h; simp
  · have : S a ≠ S b := fun q => h (by have := congrArg (fun x => x.cps.toList) q; simpa [S] using this)
    rw [decide_eq_false h]; simpa using this
theorem cut_drop (l : List Nat) (p : Nat) (h : p ≤ l.length) : cutS (S l) (some (p : Int)) none = S (l.drop p) := by
  have hl := S_len l
  rw [cutS_eq]
  simp only [loOf, hiOf, hl]
  have e : (max 0 (min (if (p : Int) < 0 then (p : Int) + l.length else p) l.length)).toNat = p := by
    rw [if_neg (Int.not_lt.mpr (Int.natCast_nonneg p)), Int.min_eq_left (Int.ofNat_le.mpr h), Int.max_eq_right (Int.natCast_nonneg p), Int.toNat_natCast]
  rw [e]
  unfold S
  rw [List.take_of_length_le (by simp)]
theorem cut_take (l : List Nat) (q : Nat) (h : 0 < q) : cutS (S l) none (some (-(q : Int))) = S (l.take (l.length - q)) := by
  have hl := S_len l
  rw [cutS_eq]
  simp only [loOf, hiOf, hl]
  have e : (max 0 (min (if -(q : Int) < 0 then -(q : Int) + l.length else -(q : Int)) l.length)).toNat = l.length - q := by
    rw [if_pos (by lia), Int.min_eq_left (by lia)]; lia
  rw [e]
  simp [S]
theorem cut_all (l : List Nat) : cutS (S l) none none = S l := by
  have hl := S_len l
  rw [cutS_eq]
  simp only [loOf, hiOf, hl]
  simp [S]

/-- how far two texts run alike -/
noncomputable def lcp : List Nat → List Nat → Nat
  | x :: xs, y :: ys => if x = y then lcp xs ys + 1 else 0
  | _, _ => 0
theorem lcp_le : ∀ a b, lcp a b ≤ a.length ∧ lcp a b ≤ b.length
  | [], b => by simp [lcp]
  | x :: a, [] => by simp [lcp]
  | x :: a, y :: b => by
    unfold lcp
    split
    · have := lcp_le a b; simp; lia
    · simp
theorem lcp_lt : ∀ (a b : List Nat) (p : Nat), p ≤ lcp a b → (p < lcp a b ↔ ∃ c, a[p]? = some c ∧ b[p]? = some c)
  | [], b, p, h => by simp [lcp]
  | x :: a, [], p, h => by simp [lcp]
  | x :: a, y :: b, p, h => by
    unfold lcp at h ⊢
    split at h
    · rename_i e
      subst e
      cases p with
      | zero => simp
      | succ p =>
        have := lcp_lt a b p (by lia)
        simp only [if_true, List.getElem?_cons_succ]
        rw [← this]; lia
    · rename_i e
      have : p = 0 := by lia
      subst this
      simp only [if_neg e, Nat.lt_irrefl, List.getElem?_cons_zero, Option.some.injEq, false_iff]
      rintro ⟨c, rfl, rfl⟩
      exact e rfl
noncomputable def lcs (a b : List Nat) : Nat := lcp a.reverse b.reverse

/-- one row of the table -/
noncomputable def lrow (bc : Nat) : List Nat → List Int → Int → Int → List Int
  | c :: cs, r :: rs, dist, res => min (min res r + 2) (dist + subC (S [bc]) (S [c])) :: lrow bc cs rs r (min (min res r + 2) (dist + subC (S [bc]) (S [c])))
  | _, _, _, _ => []
noncomputable def row0 (n : Nat) : List Int := (List.range n).map fun (i : Nat) => 2 + (i : Int) * 2
noncomputable def rows (a : List Nat) (b : List Nat) : Nat → List Int
  | 0 => row0 a.length
  | j + 1 => lrow (b[j]?.getD 0) a (rows a b j) (j * 2) (j * 2)
noncomputable def dpLast (a b : List Nat) : Int := (rows a b b.length).getLast?.getD 0
noncomputable def levR (a b : List Nat) : Int :=
  if a = b then 0 else
  let p := lcp a b
  let q := lcs (a.drop p) (b.drop p)
  let a2 := (a.drop p).take ((a.drop p).length - q)
  let b2 := (b.drop p).take ((b.drop p).length - q)
  if a2 = [] ∨ b2 = [] then 2 * (a2.length + b2.length)
  else if b2.length < a2.length then dpLast b2 a2 else dpLast a2 b2

structure Tp2 (C : Cx) : Prop where
  tp : Tp C
  len : C.G (Str.ofString "len") = none ∧ C.B (Str.ofString "len") = some (.builtin "len")
  min : C.G (Str.ofString "min") = none ∧ C.B (Str.ofString "min") = some (.builtin "min")
  max : C.G (Str.ofString "max") = none ∧ C.B (Str.ofString "max") = some (.builtin "max")
  list : C.G (Str.ofString "list") = none ∧ C.B (Str.ofString "list") = some (.type "list")
  sub : C.G (Str.ofString "_substitution_cost") = some (.ref 158) ∧ Fn C 158 [Str.ofString "ch_a", Str.ofString "ch_b"] (fnN 12) (fnB 12)

theorem lcs_lt (a b : List Nat) (q : Nat) (h : q ≤ lcs a b) : (q < lcs a b ↔ q < a.length ∧ q < b.length ∧ a[a.length - 1 - q]?.getD 0 = b[b.length - 1 - q]?.getD 0) := by
  unfold lcs at h ⊢
  rw [lcp_lt _ _ q h]
  constructor
  · rintro ⟨c, h1, h2⟩
    have l1 : q < a.length := by have := (List.getElem?_eq_some_iff.mp h1).1; simpa using this
    have l2 : q < b.length := by have := (List.getElem?_eq_some_iff.mp h2).1; simpa using this
    rw [List.getElem?_reverse l1] at h1
    rw [List.getElem?_reverse l2] at h2
    exact ⟨l1, l2, by rw [h1, h2]⟩
  · rintro ⟨l1, l2, e⟩
    rw [List.getElem?_reverse l1, List.getElem?_reverse l2]
    rw [List.getElem?_eq_getElem (show a.length - 1 - q < a.length by lia), List.getElem?_eq_getElem (show b.length - 1 - q < b.length by lia)] at e ⊢
    simp only [Option.getD_some] at e
    exact ⟨_, rfl, by rw [e]⟩
theorem ex_cut {value x y : Expr} {po p pos : Pos} {l : List Nat} {q : Nat} (hv : Ex C N ρ μ k value (.str (S l))) (hp : Ex C N ρ μ k x (.int (-(q : Int)))) (hn : Ex C N ρ μ k y .none) (hl : l.length ≤ 10) :
    Ex C N ρ μ k (.Subscript value (.Slice none (some (.BoolOp .Or [x, y] po)) none p) pos) (.str (S (l.take (l.length - q)))) := by
  have hsz : (S l).length ≤ sizeLine := by rw [S_len]; simp only [sizeLine]; lia
  by_cases h : q = 0
  · subst h
    rw [Nat.sub_zero, List.take_length]
    have := cut_all l
    conv => rhs; rw [← this]
    exact Ew.sliceStr hv Px.none (Px.noneE (Ex.orInt hp (fun q => absurd rfl q) (fun _ => hn))) hsz
  · rw [← cut_take l q (by lia)]
    exact Ew.sliceStr hv Px.none (Px.int (Ex.orInt hp (fun _ => rfl) (fun q' => by lia))) hsz
theorem lrow_len (bc : Nat) : ∀ (a : List Nat) (R : List Int) (dist res : Int), a.length = R.length → (lrow bc a R dist res).length = R.length
  | [], [], _, _, _ => rfl
  | [], _ :: _, _, _, h => by simp at h
  | _ :: _, [], _, _, h => by simp at h
  | c :: a, r :: R, dist, res, h => by simp only [lrow, List.length_cons]; rw [lrow_len bc a R _ _ (by simpa using h)]
theorem lrow_get (bc : Nat) : ∀ (a : List Nat) (R : List Int) (dist res : Int) (i : Nat) (c : Nat) (r : Int), a[i]? = some c → R[i]? = some r →
    (lrow bc a R dist res)[i]? = some (min (min ((res :: lrow bc a R dist res)[i]?.getD 0) r + 2) ((dist :: R)[i]?.getD 0 + subC (S [bc]) (S [c])))
  | [], _, _, _, i, c, r, h, _ => by simp at h
  | _ :: _, [], _, _, i, c, r, _, h => by simp at h
  | c' :: a, r' :: R, dist, res, i, c, r, h1, h2 => by
    cases i with
    | zero =>
      simp only [List.getElem?_cons_zero, Option.some.injEq] at h1 h2
      subst h1 h2
      simp [lrow]
    | succ i =>
      simp only [List.getElem?_cons_succ] at h1 h2
      have := lrow_get bc a R r' (min (min res r' + 2) (dist + subC (S [bc]) (S [c']))) i c r h1 h2
      simp only [lrow, List.getElem?_cons_succ]
      exact this
theorem rows_len (a b : List Nat) : ∀ j, (rows a b j).length = a.length
  | 0 => by simp [rows, row0]
  | j + 1 => by simp only [rows]; rw [lrow_len _ _ _ _ _ (rows_len a b j).symm, rows_len a b j]
theorem rows_le (a b : List Nat) : ∀ (j i : Nat) (r : Int), (rows a b j)[i]? = some r → r ≤ 2 * (i + 1) + 2 * j
  | 0, i, r, h => by
    simp only [rows, row0, List.getElem?_map] at h
    obtain ⟨m, hm, rfl⟩ := Option.map_eq_some_iff.mp h
    obtain ⟨_, hm⟩ := List.getElem?_eq_some_iff.mp hm
    simp at hm
    lia
  | j + 1, i, r, h => by
    have hi : i < (rows a b (j + 1)).length := (List.getElem?_eq_some_iff.mp h).1
    rw [rows_len] at hi
    have hi' : i < (rows a b j).length := by rw [rows_len]; exact hi
    have ih := rows_le a b j i _ (List.getElem?_eq_getElem hi')
    simp only [rows] at h
    rw [lrow_get _ _ _ _ _ i _ _ (List.getElem?_eq_getElem hi) (List.getElem?_eq_getElem hi')] at h
    cases h
    refine Int.le_trans (Int.min_le_left _ _) (Int.le_trans (Int.add_le_add_right (Int.min_le_right _ _) 2) ?_)
    lia
theorem set_mid {α : Type} : ∀ (l r : List α) (i : Nat) (v : α), l[i]? = some v → l.length = r.length → (l.take i ++ r.drop i).set i v = l.take (i + 1) ++ r.drop (i + 1)
  | [], _, i, v, h, _ => by simp at h
  | _ :: _, [], i, v, h, e => by simp at e
  | x :: l, y :: r, 0, v, h, e => by simp at h; subst h; simp
  | x :: l, y :: r, i + 1, v, h, e => by
    simp only [List.take_succ_cons, List.drop_succ_cons, List.cons_append, List.set_cons_succ]
    rw [set_mid l r i v (by simpa using h) (by simpa using e)]
/-- a frame that stands for all with these names -/
noncomputable def canon (N : List (Str × NameKind)) : Env := { scope := { kind := .function, names := N, isGenerator := false, isCoroutine := false, more := [] }, locals := 0, globals := 0, cells := [] }
theorem blockKind_of {env : Env} (E : EnvOk N env) : env.blockKind = (canon N).blockKind := by unfold Env.blockKind; rw [E.kind]; rfl
theorem kindOf_of {env : Env} (E : EnvOk N env) (x : Str) : env.kindOf x = (canon N).kindOf x := by unfold Env.kindOf; rw [E.names]; rfl
theorem swapped_of {env : Env} {targets : List Expr} {value : Expr} {r : Sem (Option (List Str))} (E : EnvOk N env) (h : swappedStores targets value (canon N) = r) : swappedStores targets value env = r := by
  have hb := blockKind_of E
  have hk : env.kindOf = (canon N).kindOf := funext (kindOf_of E)
  rw [← h]
  delta swappedStores
  rw [hb, hk]
theorem swaps_of {env : Env} {target : Option Expr} {value : Expr} {line : Nat} {r : Sem Bool} (E : EnvOk N env) (h : swapsWith value target line (canon N) = r) : swapsWith value target line env = r := by
  have hb := blockKind_of E
  have hk : env.kindOf = (canon N).kindOf := funext (kindOf_of E)
  have hs : env.scope.kind = (canon N).scope.kind := E.kind
  rw [← h]
  delta swapsWith
  rw [hb, hk, hs]
theorem walk_lev (H : Tp2 C) {a b : List Nat} (ha : a.length ≤ 10) (hb : b.length ≤ 10) (hl : ∀ c, c ∈ a ∨ c ∈ b → Builtin.Str.tooLong (Txt.lower (S [c])).length = false) :
    Sx C (fnN 13) ([Str.ofString "a", Str.ofString "b", Str.ofString "max_cost"].zip [.str (S a), .str (S b), .int 40]) [] (k + 1) (fnB 13) ⟨fun _ _ => False, fun r => r = .int (levR a b), fun _ _ => False⟩ := by
  refine Sx.ifLeave (c := S a == S b) (Tx.cmp (Ex.name rfl) (Ex.name rfl) Cmp.eqStr) (fun e => ?_) (fun e => ?_)
  · exact Sx.ret Ex.int trivial (by rw [S_beq] at e; unfold levR; rw [if_pos (of_decide_eq_true e)])
  rw [S_beq] at e
  have hne : a ≠ b := of_decide_eq_false e
  refine Sx.assign Ex.int ?_
  have hsz : ∀ l : List Nat, l.length ≤ 10 → (S l).length ≤ sizeLine := fun l h => by rw [S_len]; simp only [sizeLine]; lia
  -- the common front
  refine Sx.while_ (σ := Nat) (fun n p => n = lcp a b - p ∧ p ≤ lcp a b) (fun p => [(Str.ofString "pre", .int p), (Str.ofString "a", .str (S a)), (Str.ofString "b", .str (S b)), (Str.ofString "max_cost", .int 40)]) (fun _ => []) (fun p => decide (p < lcp a b)) (lcp a b) 0 ⟨by lia, Nat.zero_le _⟩
    (SubE.cons rfl (SubE.cons rfl (SubE.cons rfl (SubE.cons rfl SubE.nil)))) SubE.nil ?_ ?_ ?_
  · rintro n p ⟨rfl, hp⟩
    have hla := lcp_le a b
    have key := lcp_lt a b p hp
    have ea : decide (p < lcp a b) = (((S (a.drop p)).length : Int) != 0 && (((S (b.drop p)).length : Int) != 0 && ((S [a[p]?.getD 0] == S [b[p]?.getD 0]) && true))) := by
      rw [S_len, S_len]
      by_cases h1 : p < a.length
      · by_cases h2 : p < b.length
        · rw [List.getElem?_eq_getElem h1, List.getElem?_eq_getElem h2] at key ⊢
          simp only [S_beq, Option.getD_some]
          have e1 : (((a.drop p).length : Int) != 0) = true := by simp; lia
          have e2 : (((b.drop p).length : Int) != 0) = true := by simp; lia
          rw [e1, e2]
          simp only [Bool.true_and, Bool.and_true]
          rw [decide_eq_decide, key]
          simp
          exact ⟨fun q => q.symm, fun q => q.symm⟩
        · have e2 : (((b.drop p).length : Int) != 0) = false := by simp; lia
          rw [e2]; simp only [Bool.false_and, Bool.and_false]
          exact decide_eq_false (by lia)
      · have e1 : (((a.drop p).length : Int) != 0) = false := by simp; lia
        rw [e1]; simp only [Bool.false_and]
        exact decide_eq_false (by lia)
    rw [ea]
    refine Tx.and (.cons (Tx.str ?_ (hsz _ (by simp; lia))) fun t1 => .cons (Tx.str ?_ (hsz _ (by simp; lia))) fun t2 => .cons (Tx.cmp (d₁ := .str (S [a[p]?.getD 0])) (d₂ := .str (S [b[p]?.getD 0])) (Ex.ofFlat (Ew.sub (Ew.of (Ex.name rfl)) (Ew.of (Ex.name rfl)) ?_) trivial) (Ex.ofFlat (Ew.sub (Ew.of (Ex.name rfl)) (Ew.of (Ex.name rfl)) ?_) trivial) Cmp.eqStr) fun _ => .nil)
    · rw [← cut_drop a p (by lia)]
      exact Ew.sliceStr (Ex.name rfl) (Px.int (Ex.name rfl)) Px.none (hsz _ ha)
    · rw [← cut_drop b p (by lia)]
      exact Ew.sliceStr (Ex.name rfl) (Px.int (Ex.name rfl)) Px.none (hsz _ hb)
    · have : p < a.length := by rw [S_len] at t1; simp at t1; lia
      exact Get.str (by lia) (by lia) (by rw [S_get, Int.toNat_natCast, List.getElem?_eq_getElem this]; rfl)
    · have : p < b.length := by rw [S_len] at t2; simp at t2; lia
      exact Get.str (by lia) (by lia) (by rw [S_get, Int.toNat_natCast, List.getElem?_eq_getElem this]; rfl)
  · rintro n p ⟨rfl, hp⟩ hc
    have hc := of_decide_eq_true hc
    exact Sx.aug rfl Ex.int (fun h => aug_add h) (Sx.nil ⟨lcp a b - (p + 1), p + 1, by lia, ⟨rfl, hc⟩, SubE.cons rfl (SubE.cons rfl (SubE.cons rfl (SubE.cons rfl SubE.nil))), SubE.nil⟩)
  rintro n p ⟨rfl, hp⟩ hc
  have hp' : p = lcp a b := by have := of_decide_eq_false hc; lia
  subst hp'
  clear hc hp
  have hla := lcp_le a b
  refine Sx.assign (d := .str (S (a.drop (lcp a b)))) ?_ ?_
  · rw [← cut_drop a _ hla.1]
    exact Ew.sliceStr (Ex.name rfl) (Px.int (Ex.name rfl)) Px.none (hsz _ ha)
  refine Sx.assign (d := .str (S (b.drop (lcp a b)))) ?_ ?_
  · rw [← cut_drop b _ hla.2]
    exact Ew.sliceStr (Ex.name rfl) (Px.int (Ex.name rfl)) Px.none (hsz _ hb)
  generalize ha1 : a.drop (lcp a b) = a1
  generalize hb1 : b.drop (lcp a b) = b1
  have la1 : a1.length ≤ 10 := by rw [← ha1]; simp; lia
  have lb1 : b1.length ≤ 10 := by rw [← hb1]; simp; lia
  refine Sx.assign Ex.int ?_
  -- the common end
  refine Sx.while_ (σ := Nat) (fun n q => n = lcs a1 b1 - q ∧ q ≤ lcs a1 b1) (fun q => [(Str.ofString "post", .int (-(q : Int))), (Str.ofString "a", .str (S a1)), (Str.ofString "b", .str (S b1)), (Str.ofString "max_cost", .int 40)]) (fun _ => []) (fun q => decide (q < lcs a1 b1)) (lcs a1 b1) 0 ⟨by lia, Nat.zero_le _⟩
    (SubE.cons rfl (SubE.cons rfl (SubE.cons rfl (SubE.cons rfl SubE.nil)))) SubE.nil ?_ ?_ ?_
  · rintro n q ⟨rfl, hq⟩
    have key := lcs_lt a1 b1 q hq
    have ea : decide (q < lcs a1 b1) = (((S (a1.take (a1.length - q))).length : Int) != 0 && (((S (b1.take (b1.length - q))).length : Int) != 0 && ((S [a1[a1.length - 1 - q]?.getD 0] == S [b1[b1.length - 1 - q]?.getD 0]) && true))) := by
      rw [S_len, S_len]
      by_cases h1 : q < a1.length
      · by_cases h2 : q < b1.length
        · simp only [S_beq]
          have e1 : (((a1.take (a1.length - q)).length : Int) != 0) = true := by simp; lia
          have e2 : (((b1.take (b1.length - q)).length : Int) != 0) = true := by simp; lia
          rw [e1, e2]
          simp only [Bool.true_and, Bool.and_true]
          rw [decide_eq_decide, key]
          simp [h1, h2]
        · have e2 : (((b1.take (b1.length - q)).length : Int) != 0) = false := by simp; lia
          rw [e2]; simp only [Bool.false_and, Bool.and_false]
          exact decide_eq_false (by lia)
      · have e1 : (((a1.take (a1.length - q)).length : Int) != 0) = false := by simp; lia
        rw [e1]; simp only [Bool.false_and]
        exact decide_eq_false (by lia)
    rw [ea]
    refine Tx.and (.cons (Tx.str (ex_cut (Ex.name rfl) (Ex.name rfl) Ex.none la1) (hsz _ (by simp; lia))) fun t1 => .cons (Tx.str (ex_cut (Ex.name rfl) (Ex.name rfl) Ex.none lb1) (hsz _ (by simp; lia))) fun t2 =>
      .cons (Tx.cmp (d₁ := .str (S [a1[a1.length - 1 - q]?.getD 0])) (d₂ := .str (S [b1[b1.length - 1 - q]?.getD 0])) (Ex.ofFlat (Ew.sub (Ew.of (Ex.name rfl)) (Ew.of (Ex.bin (Ex.name rfl) Ex.int Bin.sub)) ?_) trivial) (Ex.ofFlat (Ew.sub (Ew.of (Ex.name rfl)) (Ew.of (Ex.bin (Ex.name rfl) Ex.int Bin.sub)) ?_) trivial) Cmp.eqStr) fun _ => .nil)
    · have : q < a1.length := by rw [S_len] at t1; simp at t1; lia
      exact Get.strNeg (by lia) (by rw [S_len]; lia) (by lia) (by rw [S_get, S_len, show (-(q : Int) - 1 + (a1.length : Nat)).toNat = a1.length - 1 - q by lia, List.getElem?_eq_getElem (by lia)]; rfl)
    · have : q < b1.length := by rw [S_len] at t2; simp at t2; lia
      exact Get.strNeg (by lia) (by rw [S_len]; lia) (by lia) (by rw [S_get, S_len, show (-(q : Int) - 1 + (b1.length : Nat)).toNat = b1.length - 1 - q by lia, List.getElem?_eq_getElem (by lia)]; rfl)
  · rintro n q ⟨rfl, hq⟩ hc
    have hc := of_decide_eq_true hc
    refine Sx.aug (r := -((q + 1 : Nat) : Int)) rfl Ex.int (fun h => ?_) (Sx.nil ⟨lcs a1 b1 - (q + 1), q + 1, by lia, ⟨rfl, hc⟩, SubE.cons rfl (SubE.cons rfl (SubE.cons rfl (SubE.cons rfl SubE.nil))), SubE.nil⟩)
    have : (-((q + 1 : Nat) : Int)) = -(q : Int) - 1 := by lia
    rw [this] at h
    exact aug_sub h
  rintro n q ⟨rfl, hq⟩ hc
  have hq' : q = lcs a1 b1 := by have := of_decide_eq_false hc; lia
  subst hq'
  clear hc hq
  refine Sx.assign (ex_cut (Ex.name rfl) (Ex.name rfl) Ex.none la1) ?_
  refine Sx.assign (ex_cut (Ex.name rfl) (Ex.name rfl) Ex.none lb1) ?_
  have hR : levR a b = if a1.take (a1.length - lcs a1 b1) = [] ∨ b1.take (b1.length - lcs a1 b1) = [] then (2 * ((a1.take (a1.length - lcs a1 b1)).length + (b1.take (b1.length - lcs a1 b1)).length) : Int)
      else if (b1.take (b1.length - lcs a1 b1)).length < (a1.take (a1.length - lcs a1 b1)).length then dpLast (b1.take (b1.length - lcs a1 b1)) (a1.take (a1.length - lcs a1 b1)) else dpLast (a1.take (a1.length - lcs a1 b1)) (b1.take (b1.length - lcs a1 b1)) := by
    unfold levR
    rw [if_neg hne]
    simp only [ha1, hb1]
  rw [hR]
  have hl' : ∀ c, c ∈ a1.take (a1.length - lcs a1 b1) ∨ c ∈ b1.take (b1.length - lcs a1 b1) → Builtin.Str.tooLong (Txt.lower (S [c])).length = false := fun c hc => hl c (by
    rcases hc with h | h
    · exact .inl (List.mem_of_mem_drop (ha1 ▸ List.mem_of_mem_take h))
    · exact .inr (List.mem_of_mem_drop (hb1 ▸ List.mem_of_mem_take h)))
  generalize ha2 : a1.take (a1.length - lcs a1 b1) = a2 at hl' ⊢
  generalize hb2 : b1.take (b1.length - lcs a1 b1) = b2 at hl' ⊢
  have la2 : a2.length ≤ 10 := by rw [← ha2]; simp; lia
  have lb2 : b2.length ≤ 10 := by rw [← hb2]; simp; lia
  clear hR
  have exLen : ∀ {ρ : List (Str × D)} {μ : List (Str × List D)} {x : Str} {p1 p2 p3 : Pos} {l : List Nat}, ρ.lookup x = some (.str (S l)) → l.length ≤ 10 → (x == ("__debug__" : Str)) = false → (x == ("__classdict__" : Str)) = false → Ex C (fnN 13) ρ μ (k + 1) (.Call (.Name (Str.ofString "len") p1) [.Name x p2] [] p3) (.int l.length) := by
    intro ρ μ x p1 p2 p3 l h1 h2 h3 h4
    have := Ex.callB (C := C) (N := fnN 13) (ρ := ρ) (μ := μ) (k := k + 1) (pos := p3) (Vx.builtin (pos := p1) (x := Str.ofString "len") rfl H.len.1 H.len.2) (EwL.cons (Ew.of (Ex.name (pos := p2) h1 h3 h4)) EwL.nil) (Clv.lenStr (x := S l) (by rw [S_len]; lia))
    rw [S_len] at this
    exact this
  refine Sx.ifLeave (Tx.or (.cons (Tx.not (Tx.str (Ex.name rfl) (hsz a2 la2))) fun _ => .cons (Tx.not (Tx.str (Ex.name rfl) (hsz b2 lb2))) fun _ => .nil)) (fun e => ?_) (fun e => ?_)
  · refine Sx.ret (Ex.bin (Tp.ints H.tp.move rfl) (Ex.bin (exLen rfl la2 rfl rfl) (exLen rfl lb2 rfl rfl) Bin.add) (Bin.mul (mul_small (by lia)))) trivial ?_
    rw [if_pos]
    rw [S_len, S_len] at e
    simp at e
    exact e
  rw [S_len, S_len] at e
  simp at e
  rw [if_neg (by rintro (q | q); exact e.1 q; exact e.2 q)]
  have na : 0 < a2.length := List.length_pos_iff.mpr e.1
  have nb : 0 < b2.length := List.length_pos_iff.mpr e.2
  refine Sx.ifLeave (Tx.or (.cons (Tx.cmp (exLen rfl la2 rfl rfl) (Tp.ints H.tp.most rfl) Cmp.gt) fun _ => .cons (Tx.cmp (exLen rfl lb2 rfl rfl) (Tp.ints H.tp.most rfl) Cmp.gt) fun _ => .nil)) (fun e' => ?_) (fun _ => ?_)
  · simp at e'; lia
  -- the shorter one first
  have hsw : ∃ a3 b3 : List Nat, (if b2.length < a2.length then dpLast b2 a2 else dpLast a2 b2) = dpLast a3 b3 ∧ ((b2.length < a2.length ∧ a3 = b2 ∧ b3 = a2) ∨ (¬ b2.length < a2.length ∧ a3 = a2 ∧ b3 = b2)) := by
    by_cases q : b2.length < a2.length
    · exact ⟨b2, a2, by rw [if_pos q], .inl ⟨q, rfl, rfl⟩⟩
    · exact ⟨a2, b2, by rw [if_neg q], .inr ⟨q, rfl, rfl⟩⟩
  obtain ⟨a3, b3, hR, hsw⟩ := hsw
  rw [hR]
  have la3 : a3.length ≤ 10 ∧ 0 < a3.length := by rcases hsw with ⟨_, rfl, rfl⟩ | ⟨_, rfl, rfl⟩ <;> lia
  have lb3 : b3.length ≤ 10 ∧ 0 < b3.length := by rcases hsw with ⟨_, rfl, rfl⟩ | ⟨_, rfl, rfl⟩ <;> lia
  have hl3 : ∀ c, c ∈ a3 ∨ c ∈ b3 → Builtin.Str.tooLong (Txt.lower (S [c])).length = false := fun c hc => hl' c (by rcases hsw with ⟨_, rfl, rfl⟩ | ⟨_, rfl, rfl⟩; exact hc.symm; exact hc)
  refine Sx.if_ (c := decide ((b2.length : Int) < a2.length)) (J := fun ρ' μ' => SubE [(Str.ofString "a", .str (S a3)), (Str.ofString "b", .str (S b3)), (Str.ofString "max_cost", .int 40)] ρ' ∧ True) (Tx.cmp (exLen rfl lb2 rfl rfl) (exLen rfl la2 rfl rfl) Cmp.lt) (fun e' => ?_) (fun e' => ?_) ?_
  · have e' := of_decide_eq_true e'
    rcases hsw with ⟨_, rfl, rfl⟩ | ⟨q, _, _⟩
    · exact Sx.assignSw [Str.ofString "a", Str.ofString "b"] (ExL.cons (Ex.name rfl) (ExL.cons (Ex.name rfl) ExL.nil)) rfl (Sx.nil ⟨SubE.cons rfl (SubE.cons rfl (SubE.cons rfl SubE.nil)), trivial⟩) (by intro x hx; simp at hx; rcases hx with rfl | rfl <;> exact .inl rfl) (by simp [sizeLine]) (fun env E => swapped_of E rfl)
    · lia
  · have e' := of_decide_eq_false e'
    rcases hsw with ⟨q, _, _⟩ | ⟨_, rfl, rfl⟩
    · lia
    · exact Sx.nil ⟨SubE.cons rfl (SubE.cons rfl (SubE.cons rfl SubE.nil)), trivial⟩
  rintro ρ' μ' ⟨hsub, _⟩
  refine Sx.weaken (ρ' := [(Str.ofString "a", .str (S a3)), (Str.ofString "b", .str (S b3)), (Str.ofString "max_cost", .int 40)]) (μ' := []) ?_ hsub SubE.nil
  clear hsub hsw hR hl' ha2 hb2 na nb e
  refine Sx.ifLeave (Tx.cmp (Ex.bin (Ex.bin (exLen rfl lb3.1 rfl rfl) (exLen rfl la3.1 rfl rfl) Bin.sub) (Tp.ints H.tp.move rfl) (Bin.mul (mul_small (by decide)))) (Ex.name rfl) Cmp.gt) (fun e' => ?_) (fun _ => ?_)
  · simp at e'; lia
  refine Sx.assignF (xs := (row0 a3.length).map D.int) ?_ ?_
  · have e : (row0 a3.length).map D.int = (List.range a3.length).map fun (i : Nat) => D.int (2 + i * 2) := by simp [row0]
    rw [e]
    exact Fx.listRange (Vx.builtin rfl H.list.1 H.list.2) (Vx.builtin rfl H.tp.range.1 H.tp.range.2) (Tp.ints H.tp.move rfl) (Ex.bin (Tp.ints H.tp.move rfl) (Ex.bin (exLen rfl la3.1 rfl rfl) Ex.int Bin.add) (Bin.mul (mul_small (by lia)))) (Tp.ints H.tp.move rfl) (by decide) (by decide) (by lia) (by lia)
  refine Sx.assign Ex.int ?_
  refine Sx.for_ (σ := Nat × Int) (fun j st => st.1 = j ∧ (j = 0 ∨ st.2 = (rows a3 b3 j).getLast?.getD 0)) (fun st => [(Str.ofString "result", .int st.2), (Str.ofString "a", .str (S a3)), (Str.ofString "b", .str (S b3)), (Str.ofString "max_cost", .int 40)]) (fun st => [(Str.ofString "row", (rows a3 b3 st.1).map D.int)]) (fun _ _ => False)
    (Ixo.range1 (Vx.builtin rfl H.tp.range.1 H.tp.range.2) (exLen rfl lb3.1 rfl rfl) (by lia) (by lia) (by lia)) (0, 0) ⟨rfl, .inl rfl⟩ (SubE.cons rfl (SubE.cons rfl (SubE.cons rfl (SubE.cons rfl SubE.nil)))) (SubE.cons rfl SubE.nil) ?_ ?_ (fun _ _ e => e.elim)
  · rintro i d ⟨j, st⟩ hd ⟨hij, _⟩
    simp only at hij
    subst hij
    obtain ⟨rfl, hj⟩ := rangeD_get hd
    rw [Int.zero_add]
    have hjb : j < b3.length := by lia
    refine Sx.assign (d := .str (S [b3[j]])) (Ex.ofFlat (Ew.sub (Ew.of (Ex.name rfl)) (Ew.of (Ex.name rfl)) (Get.str (by lia) (by lia) (by rw [S_get, Int.toNat_natCast]; exact List.getElem?_eq_getElem hjb))) trivial) ?_
    refine Sx.assign2 (Ex.bin (Ex.name rfl) (Tp.ints H.tp.move rfl) (Bin.mul (mul_small (by decide)))) trivial ?_
    refine Sx.assign Ex.int ?_
    have hfull : rows a3 b3 (j + 1) = lrow b3[j] a3 (rows a3 b3 j) (j * 2) (j * 2) := by simp only [rows]; rw [List.getElem?_eq_getElem hjb]; rfl
    generalize hR : rows a3 b3 j = R at hfull
    have hRl : R.length = a3.length := by rw [← hR]; exact rows_len a3 b3 j
    generalize hF : lrow b3[j] a3 R (j * 2) (j * 2) = full at hfull
    have hFl : full.length = R.length := by rw [← hF]; exact lrow_len _ _ _ _ _ hRl.symm
    refine Sx.for_ (σ := Nat × Int) (fun i st => st.1 = i ∧ (0 < i → st.2 ≤ 40)) (fun st => [(Str.ofString "distance", .int ((((j : Int) * 2) :: R)[st.1]?.getD 0)), (Str.ofString "result", .int ((((j : Int) * 2) :: full)[st.1]?.getD 0)), (Str.ofString "minimum", .int st.2), (Str.ofString "bchar", .str (S [b3[j]])), (Str.ofString "a", .str (S a3)), (Str.ofString "b", .str (S b3)), (Str.ofString "max_cost", .int 40)])
      (fun st => [(Str.ofString "row", (full.take st.1 ++ R.drop st.1).map D.int)]) (fun _ _ => False)
      (Ixo.range1 (Vx.builtin rfl H.tp.range.1 H.tp.range.2) (exLen rfl la3.1 rfl rfl) (by lia) (by lia) (by lia)) (0, 9223372036854775807) ⟨rfl, fun q => absurd q (Nat.lt_irrefl 0)⟩ (SubE.cons rfl (SubE.cons rfl (SubE.cons rfl (SubE.cons rfl (SubE.cons rfl (SubE.cons rfl (SubE.cons rfl SubE.nil))))))) (SubE.cons (by rw [← hR]; rfl) SubE.nil) ?_ ?_ (fun _ _ e => e.elim)
    · rintro i d ⟨i', m⟩ hd ⟨hii, hm⟩
      simp only at hii
      subst hii
      obtain ⟨rfl, hi⟩ := rangeD_get hd
      rw [Int.zero_add]
      have hia : i' < a3.length := by lia
      have hiR : i' < R.length := by lia
      have hget := lrow_get b3[j] a3 R (j * 2) (j * 2) i' a3[i'] R[i'] (List.getElem?_eq_getElem hia) (List.getElem?_eq_getElem hiR)
      rw [hF] at hget
      generalize hdist : ((((j : Int) * 2) :: R)[i']?.getD 0) = dist at hget ⊢
      generalize hres : ((((j : Int) * 2) :: full)[i']?.getD 0) = res at hget ⊢
      have hlow : ∀ c, c ∈ a3 ∨ c ∈ b3 → Builtin.Str.tooLong (Txt.lower (S [c])).length = false := hl3
      refine Sx.assign (d := .int (dist + subC (S [b3[j]]) (S [a3[i']]))) (Ex.bin (Ex.name rfl) (Ex.callF H.sub.2 (Vx.global rfl H.sub.1) (EwL.cons (Ew.of (Ex.name rfl)) (EwL.cons (Ew.sub (Ew.of (Ex.name rfl)) (Ew.of (Ex.name rfl)) (Get.str (c := a3[i']) (by lia) (by lia) (by rw [S_get, Int.toNat_natCast]; exact List.getElem?_eq_getElem hia))) EwL.nil)) (Clv.fn H.sub.2 rfl (walk_sub H.tp (a := S [b3[j]]) (b := S [a3[i']]) (hlow _ (.inr (List.getElem_mem hjb))) (hlow _ (.inl (List.getElem_mem hia)))))) Bin.add) ?_
      refine Sx.assign (d := .int R[i']) (Ex.ofFlat (Ew.sub (Ew.mut rfl) (Ew.of (Ex.name rfl)) (Get.list (by lia) (by lia) ?_)) trivial) ?_
      · rw [Int.toNat_natCast, List.getElem?_map, List.getElem?_append_right (by simp; lia)]
        simp only [List.length_take, List.getElem?_drop]
        rw [show min i' full.length = i' by lia, Nat.sub_self, Nat.add_zero, List.getElem?_eq_getElem hiR]; rfl
      refine Sx.assign (Ex.bin (Ex.callB (Vx.builtin rfl H.min.1 H.min.2) (EwL.cons (Ew.of (Ex.name rfl)) (EwL.cons (Ew.of (Ex.name rfl)) EwL.nil)) Clv.min2) (Tp.ints H.tp.move rfl) Bin.add) ?_
      refine Sx.assign (Ex.callB (Vx.builtin rfl H.min.1 H.min.2) (EwL.cons (Ew.of (Ex.name rfl)) (EwL.cons (Ew.of (Ex.name rfl)) EwL.nil)) Clv.min2) ?_
      generalize hnew : min (min res R[i'] + 2) (dist + subC (S [b3[j]]) (S [a3[i']])) = new at hget ⊢
      have hnew40 : new ≤ 40 := by
        have := rows_le a3 b3 (j + 1) i' new (by rw [hfull]; exact hget)
        lia
      refine Sx.setitem rfl (flat_ints _) rfl (Ex.name rfl) trivial (Ex.name rfl) (by lia) (by simp; lia) (by simp [sizeLine]; lia) ?_
      have hset : ((full.take i' ++ R.drop i').map D.int).set (i' : Int).toNat (.int new) = (full.take (i' + 1) ++ R.drop (i' + 1)).map D.int := by
        rw [Int.toNat_natCast, ← List.map_set, set_mid full R i' new hget hFl]
      rw [hset]
      have hd' : ((((j : Int) * 2) :: R)[i' + 1]?.getD 0) = R[i'] := by rw [List.getElem?_cons_succ, List.getElem?_eq_getElem hiR]; rfl
      have hr' : ((((j : Int) * 2) :: full)[i' + 1]?.getD 0) = new := by rw [List.getElem?_cons_succ, hget]; rfl
      refine Sx.if_ (c := decide (new < m)) (J := fun ρ' μ' => ∃ st' : Nat × Int, (st'.1 = i' + 1 ∧ (0 < i' + 1 → st'.2 ≤ 40)) ∧ SubE [(Str.ofString "distance", .int ((((j : Int) * 2) :: R)[st'.1]?.getD 0)), (Str.ofString "result", .int ((((j : Int) * 2) :: full)[st'.1]?.getD 0)), (Str.ofString "minimum", .int st'.2), (Str.ofString "bchar", .str (S [b3[j]])), (Str.ofString "a", .str (S a3)), (Str.ofString "b", .str (S b3)), (Str.ofString "max_cost", .int 40)] ρ' ∧ SubE [(Str.ofString "row", (full.take st'.1 ++ R.drop st'.1).map D.int)] μ') (Tx.cmp (Ex.name rfl) (Ex.name rfl) Cmp.lt) (fun e' => ?_) (fun e' => ?_) (fun ρ' μ' q => Sx.nil q)
      · refine Sx.assign (Ex.name rfl) (Sx.nil ⟨(i' + 1, new), ⟨rfl, fun _ => hnew40⟩, ?_, SubE.cons rfl SubE.nil⟩)
        simp only [hd', hr']
        exact SubE.cons rfl (SubE.cons rfl (SubE.cons rfl (SubE.cons rfl (SubE.cons rfl (SubE.cons rfl (SubE.cons rfl SubE.nil))))))
      · have e' := of_decide_eq_false e'
        refine Sx.nil ⟨(i' + 1, m), ⟨rfl, fun _ => by show m ≤ 40; lia⟩, ?_, SubE.cons rfl SubE.nil⟩
        simp only [hd', hr']
        exact SubE.cons rfl (SubE.cons rfl (SubE.cons rfl (SubE.cons rfl (SubE.cons rfl (SubE.cons rfl (SubE.cons rfl SubE.nil))))))
    · rintro ⟨i, m⟩ ⟨hi, hm⟩
      have hlen : (rangeD 0 (a3.length : Int)).length = a3.length := by simp [rangeD]
      simp only at hi
      rw [hlen] at hi hm
      subst hi
      have hm := hm la3.2
      refine Sx.ifLeave (Tx.cmp (Ex.name rfl) (Ex.name rfl) Cmp.gt) (fun e' => ?_) (fun _ => ?_)
      · simp at e'; simp only at hm; lia
      refine Sx.nil ⟨(j + 1, (rows a3 b3 (j + 1)).getLast?.getD 0), ⟨rfl, .inr rfl⟩, ?_, ?_⟩
      · have : ((((j : Int) * 2) :: full)[a3.length]?.getD 0) = (rows a3 b3 (j + 1)).getLast?.getD 0 := by
          rw [hfull, List.getLast?_eq_getElem?, show a3.length = (full.length - 1) + 1 by lia, List.getElem?_cons_succ]
        simp only [← this]
        exact SubE.cons rfl (SubE.cons rfl (SubE.cons rfl (SubE.cons rfl SubE.nil)))
      · refine SubE.cons ?_ SubE.nil
        simp only [hfull]
        rw [List.take_of_length_le (by lia), List.drop_of_length_le (by lia), List.append_nil]
        rfl
  · rintro ⟨j, st⟩ ⟨hj, hst⟩
    have hlen : (rangeD 0 (b3.length : Int)).length = b3.length := by simp [rangeD]
    simp only at hj hst
    rw [hlen] at hj hst
    rcases hst with q | q
    · lia
    · exact Sx.ret (Ex.name rfl) trivial (by rw [q]; rfl)
end Mine
end

/-! W4 -/
section
namespace Mine
variable {C : Cx} {N : List (Str × NameKind)} {ρ ρ' : List (Str × D)} {μ μ' : List (Str × List D)} {k : Nat} {Q : Post} {ss : List Stmt}

theorem Ex.inSet {l r : Expr} {pos : Pos} {i : Int} {a : Addr} {b : Bool} (h₁ : Ex C N ρ μ k l (.int i)) (h₂ : Vx C N ρ μ k r (.ref a)) (hS : ∀ h : Heap, C.K.In h → ∃ S n, h.SetOf (intKind C.prog C.w) a S n ∧ S i = b)
    (hm : behindInMarks .In r = false := by with_unfolding_all rfl) : Ex C N ρ μ k (.Compare l [.In] [r] pos) (.bool b) := by
  intro env ok A s P
  refine wpAny_Compare1 (wpAny_mono (h₁ env ok A s P) (fun v s₁ x => ?_) fun _ _ e => e) hm
  obtain ⟨x, t, rfl⟩ := x
  refine wpAny_mono (h₂ env ok A s₁ (P.keeps x)) (fun u s₂ y => ?_) fun _ _ e => e
  obtain ⟨y, rfl⟩ := y
  obtain ⟨S, n, hS, hb⟩ := hS _ ((P.keeps x).keeps y).base
  refine wpAny_inSet_of (k := i) (by simp [intKind, Value.isInt]) rfl hS ⟨(x.trans y).trans (Ks.tok _ _), ?_⟩
  rw [hb]; simp only [Den]
theorem Ex.dictGet {o e : Expr} {pa pos : Pos} {i : Int} {a : Addr} {d : D} (h₁ : Vx C N ρ μ k o (.ref a)) (h₂ : Ex C N ρ μ k e (.int i)) (ha : (a == sysModules) = false) (hM : ∀ h : Heap, C.K.In h → ∃ f, h.MapOf (intKind C.prog C.w) a f ∧ (∃ ob, h.get? a = some ob ∧ ob.dict = Option.none) ∧ ∀ ok h', Den ok h' d ((f i).getD .none))
    (hline : (pa.endLine == pos.line) = true := by rfl) (hb : ∀ env, attributeBase o (Str.ofString "get") env (eval o env) = eval o env := by intro _; rfl) (hs : ∀ env, backTo pos (starEach [e] env) = [(false, eval e env)] := by intro _; rfl) :
    Ex C N ρ μ k (.Call (.Attribute o (Str.ofString "get") pa) [e] [] pos) d := by
  intro env ok A s P
  refine wpAny_Call_method1_late (hb env) hline (hs env) (wpAny_mono (h₁ env ok A s P) (fun v s₁ x => ?_) fun _ _ e => e)
  obtain ⟨x, rfl⟩ := x
  obtain ⟨f, hm, hob, _⟩ := hM _ (P.keeps x).base
  refine ⟨"dict", _, PySem.F.plainAttrs_dict, PySem.F.slot_dict_get, PySem.F.type_dict_get, hm.typeIs, fun b e => by cases e; exact hob, ?_⟩
  refine wpAny_dict_get1 (knd := intKind C.prog C.w) ha (wpAny_mono (h₂ env ok A s₁ (P.keeps x)) (fun v s₂ y => ?_) fun _ _ e => e)
  obtain ⟨y, t, rfl⟩ := y
  obtain ⟨f', hm', _, hd⟩ := hM _ ((P.keeps x).keeps y).base
  exact ⟨i, f', by simp [intKind, Value.isInt], hm', (x.trans y).trans (Ks.tok _ _), hd _ _⟩

/-- the letters of the words -/
noncomputable def isLetter (c : Nat) : Bool := (97 ≤ c && c < 122) || (65 ≤ c && c < 90) || (119808 ≤ c && (c - 119808) / 52 < 3 && (c - 119808) % 52 < 25)
noncomputable def isSign (c : Nat) : Bool := 65024 ≤ c && c < 65040
noncomputable def low (c : Nat) : Nat := if c < 90 then c + 32 else if c < 122 then c else 97 + (c - 119808) % 52
/-- the tables of the top -/
structure Tp4 (C : Cx) : Prop where
  tp : Tp2 C
  ord : C.G (Str.ofString "ord") = none ∧ C.B (Str.ofString "ord") = some (.builtin "ord")
  b1 : C.G (Str.ofString "b1_set") = some (.ref 95) ∧ ∀ h : Heap, C.K.In h → ∃ S n, h.SetOf (intKind C.prog C.w) 95 S n ∧ (∀ c : Nat, isLetter c = true → S c = false) ∧ ∀ c : Nat, isSign c = true → S c = true
  b3 : C.G (Str.ofString "b3_exceptions") = some (.ref 106) ∧ ∀ h : Heap, C.K.In h → ∃ f, h.MapOf (intKind C.prog C.w) 106 f ∧ (∃ ob, h.get? 106 = some ob ∧ ob.dict = Option.none) ∧ (∀ c : Nat, c < 122 → isLetter c = true → f c = none) ∧ ∀ c : Nat, 122 ≤ c → isLetter c = true → ∃ t, f c = some (.str (S [low c]) t)
theorem walk_b1 (H : Tp4 C) {c : Nat} (hc : isLetter c = true ∨ isSign c = true) :
    Sx C (fnN 5) ([Str.ofString "code"].zip [.str (S [c])]) [] k (fnB 5) ⟨fun _ _ => False, fun r => r = .bool (isSign c), fun _ _ => False⟩ := by
  have hx : isLetter c = true → isSign c = false := by
    unfold isLetter isSign
    simp only [Bool.or_eq_true, Bool.and_eq_true, decide_eq_true_eq, Bool.and_eq_false_iff, decide_eq_false_iff_not]
    lia
  refine Sx.ret (d := .bool (isSign c)) (Ex.inSet (Ex.callB (Vx.builtin rfl H.ord.1 H.ord.2) (EwL.cons (Ew.of (Ex.name rfl)) EwL.nil) Clv.ord) (Vx.global rfl H.b1.1) fun h hK => ?_) trivial rfl
  obtain ⟨S, n, h1, h2, h3⟩ := H.b1.2 h hK
  refine ⟨S, n, h1, ?_⟩
  rcases hc with q | q
  · rw [h2 c q, hx q]
  · rw [h3 c q, q]
theorem walk_b3 (H : Tp4 C) {c : Nat} (hc : isLetter c = true) (hl : c < 122 → Txt.lower (S [c]) = S [low c]) :
    Sx C (fnN 7) ([Str.ofString "code"].zip [.str (S [c])]) [] k (fnB 7) ⟨fun _ _ => False, fun r => r = .str (S [low c]), fun _ _ => False⟩ := by
  refine Sx.assign (d := if c < 122 then .none else .str (S [low c])) (Ex.dictGet (i := c) (Vx.global rfl H.b3.1) (Ex.callB (Vx.builtin rfl H.ord.1 H.ord.2) (EwL.cons (Ew.of (Ex.name rfl)) EwL.nil) Clv.ord) (by decide) fun h hK => ?_) ?_
  · obtain ⟨f, h1, h2, h3, h4⟩ := H.b3.2 h hK
    refine ⟨f, h1, h2, fun ok h' => ?_⟩
    by_cases q : c < 122
    · rw [h3 c q hc, if_pos q]; simp [Den]
    · obtain ⟨t, e⟩ := h4 c (by lia) hc
      rw [e, if_neg q]; exact den_str
  by_cases q : c < 122
  · rw [if_pos q]
    refine Sx.ifLeave (Tx.cmp (Ex.name rfl) Ex.none Cmp.isNotNone) (fun e => by cases e) (fun _ => ?_)
    rw [← hl q]
    exact Sx.ret (Ex.lower (Ex.name rfl) (by rw [hl q]; rfl)) trivial rfl
  · rw [if_neg q]
    exact Sx.ifLeave (Tx.cmp (Ex.name rfl) Ex.none Cmp.isNotNone) (fun _ => Sx.ret (Ex.name rfl) trivial rfl) (fun e => by cases e)
theorem lower_small : ∀ c : Nat, c < 122 → isLetter c = true → Txt.lower (S [c]) = S [low c] := by decide +kernel
end Mine
end

/-! Calc18 -/
section
namespace Mine
variable {C : Cx} {N : List (Str × NameKind)} {ρ ρ' : List (Str × D)} {μ μ' : List (Str × List D)} {k : Nat} {Q : Post} {ss : List Stmt}

/-! the class of the text -/
noncomputable def wsNs : Addr := 82
/-- the class is plain, and its names hold mN -/
noncomputable def ClsOk (C : Cx) (mN : Str → Option Value) : Prop := (∀ h : Heap, C.K.In h → ClsAt h wsC wsNs mN) ∧ mN "__getattribute__" = none ∧ mN "__getattr__" = none ∧ mN "__setattr__" = none
theorem WsAt.inst {ok : Addr → Prop} {h : Heap} {r : Ws} {a : Addr} (x : WsAt ok h r a) : ∃ m, And7 (h.Inst a wsC m) ((∀ y, wsHas y = false → m y = Option.none)) ((∃ t, m (Str.ofString "raw") = some (.str r.raw t))) ((∃ t, m (Str.ofString "n") = some (.int r.n t))) ((∃ t, m (Str.ofString "nt") = some (.int r.nt t))) ((∃ b, m (Str.ofString "is_simple") = some (.bool b) ∧ b = decide (r.cnt.length ≤ 1))) (∃ p q its t, And6 (ok p) (ok q) (m (Str.ofString "norm") = some (.ref p)) (h.IsTuple p #[.ref q, .int r.tr t]) (h.IsTuple q its) (IntsV r.cnt its.toList)) := by
  obtain ⟨dA, m, o, o1, o2, h1, ⟨h2, h2', h2'', h2'''⟩, h4, h4', h5, h6, h7, h8, h9⟩ := x.at_
  exact ⟨m, ⟨o, h1, h2, h2', .inr ⟨dA, h2'', h2''', h4⟩⟩, h4', h5, h6, h7, h8, h9⟩
theorem intsV_den {ok : Addr → Prop} {h : Heap} : ∀ {xs : List Int} {vs : List Value}, IntsV xs vs → DenL ok h (xs.map D.int) vs
  | [], [], _ => by simp only [List.map_nil, DenL]
  | [], _ :: _, x => x.elim
  | _ :: _, [], x => x.elim
  | i :: xs, v :: vs, ⟨a, b⟩ => by simp only [List.map_cons, DenL]; exact ⟨v, vs, rfl, by simpa only [Den] using a, intsV_den b⟩
theorem den_intsV {ok : Addr → Prop} {h : Heap} : ∀ {xs : List Int} {vs : List Value}, DenL ok h (xs.map D.int) vs → IntsV xs vs
  | [], vs, x => by simp only [List.map_nil, DenL] at x; subst x; trivial
  | i :: xs, vs, x => by
    simp only [List.map_cons, DenL] at x
    obtain ⟨v, vs', rfl, a, b⟩ := x
    exact ⟨by simpa only [Den] using a, den_intsV b⟩
/-- the data of a name of an object -/
noncomputable def wsGet (r : Ws) (x : Str) : Option D :=
  if x = Str.ofString "raw" then some (.str r.raw) else if x = Str.ofString "n" then some (.int r.n) else if x = Str.ofString "nt" then some (.int r.nt)
  else if x = Str.ofString "is_simple" then some (.bool (decide (r.cnt.length ≤ 1))) else if x = Str.ofString "norm" then some (.tup [.tup (r.cnt.map D.int), .int r.tr]) else none
theorem WsAt.get {ok : Addr → Prop} {h : Heap} {r : Ws} {a : Addr} (x : WsAt ok h r a) : ∃ m, h.Inst a wsC m ∧ (∀ y, wsHas y = false → m y = Option.none) ∧ ∀ y d, wsGet r y = some d → ∃ v, m y = some v ∧ Den ok h d v ∧ handedOut v = pure v := by
  obtain ⟨m, hI, hno, ⟨t1, e1⟩, ⟨t2, e2⟩, ⟨t3, e3⟩, ⟨b, e4, rfl⟩, p, q, its, t, o3, o4, e5, h1, h2, h3⟩ := x.inst
  refine ⟨m, hI, hno, fun y d hy => ?_⟩
  unfold wsGet at hy
  split at hy
  · rename_i e; subst e; cases hy; exact ⟨_, e1, den_str, rfl⟩
  split at hy
  · rename_i e; subst e; cases hy; exact ⟨_, e2, den_int, rfl⟩
  split at hy
  · rename_i e; subst e; cases hy; exact ⟨_, e3, den_int, rfl⟩
  split at hy
  · rename_i e; subst e; cases hy; exact ⟨_, e4, by simp only [Den], rfl⟩
  split at hy
  · rename_i e; subst e; cases hy
    refine ⟨_, e5, ?_, rfl⟩
    simp only [Den, DenL]
    exact ⟨p, _, rfl, o3, h1, _, _, rfl, ⟨q, its, rfl, o4, h2, intsV_den h3⟩, _, _, rfl, ⟨t, rfl⟩, rfl⟩
  · cases hy
theorem den_ws {ok : Addr → Prop} {h : Heap} {r : Ws} {v : Value} (x : Den ok h (.ws r) v) : ∃ a, v = .ref a ∧ WsAt ok h r a := by simpa only [Den] using x
theorem load_ws {mN : Str → Option Value} (X : ClsOk C mN) {A : Around} {s : Shared} {ok : Addr → Prop} {r : Ws} {a : Addr} {y : Str} {d : D} {expr : Bool} {E : Value → Shared → Prop} {R : Value → Shared → Prop} (hb : C.K.In s.heap) (x : WsAt ok s.heap r a) (hy : wsGet r y = some d) (hn : mN y = none) (hB : typeLookup (.type "object") y = pure none)
    (hR : ∀ v, Den ok s.heap d v → R v { s with toks := s.toks + 1 }) : wpAny C.M A (getAttr (.ref a) y expr) R E s := by
  obtain ⟨m, hI, _, hg⟩ := x.get
  obtain ⟨v, hv, hd, hh⟩ := hg y d hy
  have Z := X.1 _ hb
  obtain ⟨nm, q, bs, sn, sub, col, dd, k0, k1, k2, k3, k5, hC⟩ := Z.obj
  obtain ⟨hh', g, dr, t, os⟩ := s
  exact load_attr hC Z.ns X.2.1 hn hB hI hv hh (hR v hd)
theorem Ex.attr {mN : Str → Option Value} (X : ClsOk C mN) {o : Expr} {y : Str} {pos : Pos} {r : Ws} {d : D} (h : Ex C N ρ μ k o (.ws r)) (hy : wsGet r y = some d) (hn : mN y = Option.none) (hB : typeLookup (.type "object") y = pure Option.none)
    (he : ∀ env, eval (.Attribute o y pos) env = (do
      let o' ← eval o env
      standAt pos.atName
      let r ← holding [o'] (getAttr o' y true)
      letTemporaryGo o o' r
      pure r) := by intro _; rfl) : Ex C N ρ μ k (.Attribute o y pos) d := by
  intro env ok A s P
  refine Attribute_any_ (wpAny_mono (h env ok A s P) (fun v s₁ z => ?_) fun _ _ e => e) (he env)
  obtain ⟨a, rfl, hw⟩ := den_ws z.2
  exact load_ws X (P.keeps z.1).base hw hy hn hB fun v hd => ⟨z.1.trans (Ks.tok _ _), hd⟩

/-! methods of the class -/
theorem meth_ws {mN : Str → Option Value} (X : ClsOk C mN) {A : Around} {s : Shared} {ok : Addr → Prop} {r : Ws} {a f : Addr} {of : Obj} {name : Str} {pl : Sem Bool} {E : Value → Shared → Prop} {R : Value × List Value → Shared → Prop} (hb : C.K.In s.heap) (x : WsAt ok s.heap r a) (hm : mN name = some (.ref f)) (hf : C.K.lookup f = some of) (hfc : of.cls = .type "function")
    {y : Option Value} (hB : typeLookup (.type "object") name = pure y) (hn : wsHas name = false) (hR : R (.ref f, [.ref a]) s) : wpAny C.M A (getMethod (.ref a) name pl) R E s := by
  obtain ⟨m, hI, hno, _⟩ := x.get
  have Z := X.1 _ hb
  obtain ⟨nm, q, bs, sn, sub, col, dd, k0, k1, k2, k3, k5, hC⟩ := Z.obj
  obtain ⟨hh', g, dr, t, os⟩ := s
  exact method_of hC Z.ns X.2.1 X.2.2.1 hm (hb _ _ hf) hfc hB hI (hno name hn) hR
theorem Ex.meth0 {mN : Str → Option Value} (X : ClsOk C mN) {o : Expr} {name : Str} {apos pos : Pos} {r : Ws} {f : Addr} {of : Obj} {d : D} {ps : List Str} {N' : List (Str × NameKind)} {body : List Stmt} (Y : Fn C f ps N' body) (hm : mN name = some (.ref f)) (hf : C.K.lookup f = some of) (hfc : of.cls = .type "function") (ho : Ew C N ρ μ k o (.ws r)) (hc : Clv C k (.ref f) [.ws r] d)
    {y : Option Value} (hB : typeLookup (.type "object") name = pure y) (hn : wsHas name = false := by rfl) (pl : Env → Sem Bool)
    (he : ∀ env, eval (.Call (.Attribute o name apos) [] [] pos) env = (do
      let ov ← eval o env
      standAt apos.atName
      let (f, first) ← holding [ov] (getMethod ov name (pl env))
      callWith pos f first (backTo pos (starEach [] env)) (backToKw pos (keywordEach [] env))) := by intro _; rfl) : Ex C N ρ μ k (.Call (.Attribute o name apos) [] [] pos) d := by
  intro env ok A s P
  refine methodCall_KW (pl := pl env) (wpAny_mono (ho env ok A s P) (fun v s₁ z => ?_) fun _ _ e => e) (he env)
  obtain ⟨a, rfl, hw⟩ := den_ws z.2
  have P₁ := P.keeps z.1
  obtain ⟨o', fd, ho', hdat, _⟩ := Y.obj
  refine meth_ws X P₁.base hw hm hf hfc hB hn (callWith_meth0 hdat (P₁.base _ _ ho') ?_)
  refine wpAny_mono (hc ok A s₁ [.ref a] P₁.rm P₁.base P₁.new ?_) (fun v s₂ q => ⟨z.1.trans q.1, q.2⟩) fun _ _ e => e
  simp only [DenL]
  exact ⟨_, _, rfl, z.2, rfl⟩
theorem Ex.meth1 {mN : Str → Option Value} (X : ClsOk C mN) {o e : Expr} {name : Str} {apos pos : Pos} {r : Ws} {f : Addr} {of : Obj} {d₁ d : D} {ps : List Str} {N' : List (Str × NameKind)} {body : List Stmt} (Y : Fn C f ps N' body) (hm : mN name = some (.ref f)) (hf : C.K.lookup f = some of) (hfc : of.cls = .type "function") (ho : Ew C N ρ μ k o (.ws r)) (he : Ew C N ρ μ k e d₁) (hc : Clv C k (.ref f) [.ws r, d₁] d)
    {y : Option Value} (hB : typeLookup (.type "object") name = pure y) (hn : wsHas name = false := by rfl) (pl : Env → Sem Bool)
    (hev : ∀ env, eval (.Call (.Attribute o name apos) [e] [] pos) env = (do
      let ov ← eval o env
      standAt apos.atName
      let (f, first) ← holding [ov] (getMethod ov name (pl env))
      callWith pos f first (backTo pos (starEach [e] env)) (backToKw pos (keywordEach [] env))) := by intro _; rfl)
    (hs : ∀ env, starEach [e] env = (false, eval e env) :: starEach [] env := by intro _; rfl) : Ex C N ρ μ k (.Call (.Attribute o name apos) [e] [] pos) d := by
  intro env ok A s P
  refine methodCall_KW (pl := pl env) (wpAny_mono (ho env ok A s P) (fun v s₁ z => ?_) fun _ _ e => e) (hev env)
  obtain ⟨a, rfl, hw⟩ := den_ws z.2
  have P₁ := P.keeps z.1
  obtain ⟨o', fd, ho', hdat, _⟩ := Y.obj
  refine meth_ws X P₁.base hw hm hf hfc hB hn (callWith_meth (h₀ := s₁.heap) hdat (P₁.base _ _ ho') (wpAny_items_cons (wpAny_mono (he env ok A s₁ P₁) (fun v s₂ q => wpAny_items_nil ⟨q.1.keep, ?_⟩) fun _ _ e => e) (hs env)) (hs env))
  have P₂ := P₁.keeps q.1
  refine wpAny_mono (hc ok A s₂ ([.ref a] ++ [v]) P₂.rm P₂.base P₂.new ?_) (fun v s₃ w => ⟨(z.1.trans q.1).trans w.1, w.2⟩) fun _ _ e => e
  simp only [List.cons_append, List.nil_append, DenL]
  exact ⟨_, _, rfl, z.2.keeps q.1.keep, _, _, rfl, q.2, rfl⟩
end Mine
end

/-! W5 -/
section
namespace Mine
variable {C : Cx} {N : List (Str × NameKind)} {ρ ρ' : List (Str × D)} {μ μ' : List (Str × List D)} {k : Nat} {Q : Post} {ss : List Stmt}

/-- the defs of the class -/
noncomputable def clsBody : Stmt → List Stmt
  | .ClassDef _ _ _ body _ _ _ _ _ _ _ => body
  | _ => []
noncomputable def methSt (i : Nat) : Stmt := ((clsBody (topSt 2))[i]?).getD (.Pass ⟨0, 0, 0, 0⟩)
noncomputable def mB (i : Nat) : List Stmt := bodyOf (methSt i)
noncomputable def mNm (i : Nat) : List (Str × NameKind) := namesOf (methSt i)
noncomputable def MethAt (C : Cx) (mN : Str → Option Value) (name : Str) (f : Addr) (ps : List Str) (i : Nat) : Prop := mN name = some (.ref f) ∧ Fn C f ps (mNm i) (mB i) ∧ ∃ of, C.K.lookup f = some of ∧ of.cls = .type "function"
structure Tp5 (C : Cx) (mN : Str → Option Value) : Prop where
  tp : Tp2 C
  cls : ClsOk C mN
  no : ∀ y, wsHas y = true → mN y = none
  longest : MethAt C mN (Str.ofString "longest_run_of_spaces") 45 [Str.ofString "self"] 2
  indent : MethAt C mN (Str.ofString "indent_level") 52 [Str.ofString "self", Str.ofString "tabsize"] 3
  less : MethAt C mN (Str.ofString "less") 73 [Str.ofString "self", Str.ofString "other"] 6
variable {mN : Str → Option Value}
theorem noObj_raw : typeLookup (.type "object") (Str.ofString "raw") = pure none := by rw [typeLookup_type, builtinLookup_eq_fast]; kernel_rfl
theorem noObj_n : typeLookup (.type "object") (Str.ofString "n") = pure none := by rw [typeLookup_type, builtinLookup_eq_fast]; kernel_rfl
theorem noObj_nt : typeLookup (.type "object") (Str.ofString "nt") = pure none := by rw [typeLookup_type, builtinLookup_eq_fast]; kernel_rfl
theorem noObj_norm : typeLookup (.type "object") (Str.ofString "norm") = pure none := by rw [typeLookup_type, builtinLookup_eq_fast]; kernel_rfl
theorem noObj_simple : typeLookup (.type "object") (Str.ofString "is_simple") = pure none := by rw [typeLookup_type, builtinLookup_eq_fast]; kernel_rfl
theorem noObj_less : typeLookup (.type "object") (Str.ofString "less") = pure none := by rw [typeLookup_type, builtinLookup_eq_fast]; kernel_rfl
theorem noObj_indent : typeLookup (.type "object") (Str.ofString "indent_level") = pure none := by rw [typeLookup_type, builtinLookup_eq_fast]; kernel_rfl
theorem noObj_longest : typeLookup (.type "object") (Str.ofString "longest_run_of_spaces") = pure none := by rw [typeLookup_type, builtinLookup_eq_fast]; kernel_rfl

theorem mul_smallL {a b : Int} (h : a.natAbs < 2 ^ 60) : IntMulOk a b := by
  refine IntMulOk.of_left ?_
  unfold Builtin.Int.intBits
  split
  · lia
  · rename_i q
    have : a.natAbs.log2 < 60 := (Nat.log2_lt (by simpa using q)).mpr h
    lia
noncomputable def longR (r : Ws) : Int := max (r.cnt.length - 1) r.tr
noncomputable def ilSum (cnt : List Int) (ts : Int) : Nat → Int
  | 0 => 0
  | j + 1 => ilSum cnt ts j + (ts + j).fdiv ts * (cnt[(ts + j).toNat]?.getD 0)
noncomputable def indR (r : Ws) (ts : Int) : Int := r.tr + ts * (ilSum r.cnt ts (r.cnt.length - ts).toNat + r.nt)
noncomputable def lessR (r q : Ws) : Bool :=
  if q.n ≤ r.n then false
  else if r.cnt.length ≤ 1 ∧ q.cnt.length ≤ 1 then decide (r.nt ≤ q.nt)
  else (List.range (max (longR r) (longR q)).toNat).all fun (i : Nat) => decide (indR r (2 + i) < indR q (2 + i))
structure Ws.Ok (r : Ws) : Prop where
  cnt : r.cnt.length ≤ 1000
  one : ∀ c ∈ r.cnt, 0 ≤ c ∧ c ≤ 1000
  tr : 0 ≤ r.tr ∧ r.tr ≤ 1000
theorem walk_longest (H : Tp5 C mN) {r : Ws} (hr : r.Ok) :
    Sx C (mNm 2) ([Str.ofString "self"].zip [.ws r]) [] k (mB 2) ⟨fun _ _ => False, fun d => d = .int (longR r), fun _ _ => False⟩ := by
  refine Sx.assignTup [(Str.ofString "count", _), (Str.ofString "trailing", _)] (Ex.attr H.cls (Ex.name rfl) (d := .tup [.tup (r.cnt.map D.int), .int r.tr]) rfl (H.no _ rfl) noObj_norm) rfl ?_ rfl (by intro p hp; simp at hp; rcases hp with rfl | rfl <;> exact .inl rfl)
  have h := hr.cnt
  refine Sx.ret (Ex.callB (Vx.builtin rfl H.tp.max.1 H.tp.max.2) (EwL.cons (Ew.of (Ex.bin (Ex.callB (Vx.builtin rfl H.tp.len.1 H.tp.len.2) (EwL.cons (Ew.of (Ex.name rfl)) EwL.nil) (Clv.lenTup (by simp; lia))) Ex.int Bin.sub)) (EwL.cons (Ew.of (Ex.name rfl)) EwL.nil)) Clv.max2) trivial ?_
  simp [longR]
theorem walk_indent (H : Tp5 C mN) {r : Ws} (hr : r.Ok) {ts : Int} (h1 : 1 ≤ ts) (h2 : ts ≤ 2000) :
    Sx C (mNm 3) ([Str.ofString "self", Str.ofString "tabsize"].zip [.ws r, .int ts]) [] k (mB 3) ⟨fun _ _ => False, fun d => d = .int (indR r ts), fun _ _ => False⟩ := by
  refine Sx.assignTup [(Str.ofString "count", _), (Str.ofString "trailing", _)] (Ex.attr H.cls (Ex.name rfl) (d := .tup [.tup (r.cnt.map D.int), .int r.tr]) rfl (H.no _ rfl) noObj_norm) rfl ?_ rfl (by intro p hp; simp at hp; rcases hp with rfl | rfl <;> exact .inl rfl)
  have h := hr.cnt
  refine Sx.assign Ex.int ?_
  refine Sx.for_ (σ := Int) (fun j st => st = ilSum r.cnt ts j) (fun st => [(Str.ofString "il", .int st), (Str.ofString "trailing", .int r.tr), (Str.ofString "count", .tup (r.cnt.map D.int)), (Str.ofString "self", .ws r), (Str.ofString "tabsize", .int ts)]) (fun _ => []) (fun _ _ => False)
    (Ixo.range2 (Vx.builtin rfl H.tp.tp.range.1 H.tp.tp.range.2) (Ex.name rfl) (Ex.callB (Vx.builtin rfl H.tp.len.1 H.tp.len.2) (EwL.cons (Ew.of (Ex.name rfl)) EwL.nil) (Clv.lenTup (by simp; lia))) (by lia) (by lia) (by lia) (by simp; lia) (by simp; lia)) 0 rfl
    (SubE.cons rfl (SubE.cons rfl (SubE.cons rfl (SubE.cons rfl (SubE.cons rfl SubE.nil))))) SubE.nil ?_ ?_ (fun _ _ e => e.elim)
  · rintro j d st hd rfl
    obtain ⟨rfl, hj⟩ := rangeD_get hd
    simp only [List.length_map] at hj
    have hlt : (ts + j).toNat < r.cnt.length := by lia
    have hone := hr.one _ (List.getElem_mem hlt)
    refine Sx.assign (d := .int (ilSum r.cnt ts (j + 1))) ?_ (Sx.nil ⟨_, rfl, SubE.cons rfl (SubE.cons rfl (SubE.cons rfl (SubE.cons rfl (SubE.cons rfl SubE.nil)))), SubE.nil⟩)
    have hc : r.cnt[(ts + j).toNat]?.getD 0 = r.cnt[(ts + j).toNat] := by rw [List.getElem?_eq_getElem hlt]; rfl
    have hil : ilSum r.cnt ts (j + 1) = ilSum r.cnt ts j + (ts + j).fdiv ts * (r.cnt[(ts + j).toNat]?.getD 0) := rfl
    rw [hil, hc]
    refine Ex.bin (Ex.name rfl) (Ex.bin (Ex.bin (Ex.name rfl) (Ex.name rfl) (Bin.fdiv (by lia) (PyProof.noPylong_small (by lia)))) (Ex.ofFlat (Ew.sub (d' := .int r.cnt[(ts + j).toNat]) (Ew.of (Ex.name rfl)) (Ew.of (Ex.name rfl)) (Get.tup (by lia) (by lia) ?_)) trivial) (Bin.mul (mul_small (by lia)))) Bin.add
    rw [List.getElem?_map, List.getElem?_eq_getElem hlt]; rfl
  · rintro st hst
    refine Sx.ret (Ex.bin (Ex.name rfl) (Ex.bin (Ex.name rfl) (Ex.bin (Ex.name rfl) (Ex.attr H.cls (Ex.name rfl) (d := .int r.nt) rfl (H.no _ rfl) noObj_nt) Bin.add) (Bin.mul (mul_smallL (by lia)))) Bin.add) trivial ?_
    have hl : (rangeD ts ((r.cnt.map D.int).length : Int)).length = (r.cnt.length - ts).toNat := by simp [rangeD]
    rw [hst, hl]; rfl
theorem walk_less (H : Tp5 C mN) {r q : Ws} (hr : r.Ok) (hq : q.Ok) :
    Sx C (mNm 6) ([Str.ofString "self", Str.ofString "other"].zip [.ws r, .ws q]) [] (k + 1) (mB 6) ⟨fun _ _ => False, fun d => d = .bool (lessR r q), fun _ _ => False⟩ := by
  refine Sx.ifLeave (Tx.cmp (Ex.attr H.cls (Ex.name rfl) (d := .int r.n) rfl (H.no _ rfl) noObj_n) (Ex.attr H.cls (Ex.name rfl) (d := .int q.n) rfl (H.no _ rfl) noObj_n) Cmp.ge) (fun e => ?_) (fun e => ?_)
  · refine Sx.ret Ex.bool trivial ?_
    unfold lessR; rw [if_pos (of_decide_eq_true e)]
  have e := of_decide_eq_false e
  refine Sx.ifLeave (Tx.and (.cons (Tx.bool (Ex.attr H.cls (Ex.name rfl) (d := .bool (decide (r.cnt.length ≤ 1))) rfl (H.no _ rfl) noObj_simple)) fun _ => .cons (Tx.bool (Ex.attr H.cls (Ex.name rfl) (d := .bool (decide (q.cnt.length ≤ 1))) rfl (H.no _ rfl) noObj_simple)) fun _ => .nil)) (fun e1 => ?_) (fun e1 => ?_)
  · refine Sx.ret (Ex.cmp (Ex.attr H.cls (Ex.name rfl) (d := .int r.nt) rfl (H.no _ rfl) noObj_nt) (Ex.attr H.cls (Ex.name rfl) (d := .int q.nt) rfl (H.no _ rfl) noObj_nt) Cmp.le) trivial ?_
    simp only [Bool.and_true, Bool.and_eq_true, decide_eq_true_eq] at e1
    unfold lessR; rw [if_neg e, if_pos e1]
  have e1' : ¬ (r.cnt.length ≤ 1 ∧ q.cnt.length ≤ 1) := fun z => by simp [z.1, z.2] at e1
  obtain ⟨of1, f1, g1⟩ := H.longest.2.2
  obtain ⟨of2, f2, g2⟩ := H.indent.2.2
  have b1 : longR r ≤ 1000 ∧ 0 ≤ longR r := by have := hr.cnt; have := hr.tr; unfold longR; lia
  have b2 : longR q ≤ 1000 ∧ 0 ≤ longR q := by have := hq.cnt; have := hq.tr; unfold longR; lia
  refine Sx.assign (d := .int (max (longR r) (longR q) + 1)) (Ex.bin (Ex.callB (Vx.builtin rfl H.tp.max.1 H.tp.max.2) (EwL.cons (Ew.of (Ex.meth0 H.cls H.longest.2.1 H.longest.1 f1 g1 (Ew.of (Ex.name rfl)) (Clv.fn H.longest.2.1 rfl (walk_longest H hr)) noObj_longest rfl _)) (EwL.cons (Ew.of (Ex.meth0 H.cls H.longest.2.1 H.longest.1 f1 g1 (Ew.of (Ex.name rfl)) (Clv.fn H.longest.2.1 rfl (walk_longest H hq)) noObj_longest rfl _)) EwL.nil)) Clv.max2) Ex.int Bin.add) ?_
  refine Sx.for_ (σ := Unit) (fun j _ => ∀ i : Nat, i < j → indR r (2 + i) < indR q (2 + i)) (fun _ => [(Str.ofString "self", .ws r), (Str.ofString "other", .ws q)]) (fun _ => []) (fun _ _ => False)
    (Ixo.range2 (Vx.builtin rfl H.tp.tp.range.1 H.tp.tp.range.2) Ex.int (Ex.bin (Ex.name rfl) Ex.int Bin.add) (by lia) (by lia) (by lia) (by lia) (by lia)) () (fun i hi => absurd hi (Nat.not_lt_zero _))
    (SubE.cons rfl (SubE.cons rfl SubE.nil)) SubE.nil ?_ ?_ (fun _ _ e => e.elim)
  · rintro j d _ hd hI
    obtain ⟨rfl, hj⟩ := rangeD_get hd
    refine Sx.ifLeave (Tx.cmp (Ex.meth1 H.cls H.indent.2.1 H.indent.1 f2 g2 (Ew.of (Ex.name rfl)) (Ew.of (Ex.name rfl)) (Clv.fn H.indent.2.1 rfl (walk_indent H hr (by lia) (by lia))) noObj_indent rfl _) (Ex.meth1 H.cls H.indent.2.1 H.indent.1 f2 g2 (Ew.of (Ex.name rfl)) (Ew.of (Ex.name rfl)) (Clv.fn H.indent.2.1 rfl (walk_indent H hq (by lia) (by lia))) noObj_indent rfl _) Cmp.ge) (fun e2 => ?_) (fun e2 => ?_)
    · refine Sx.ret Ex.bool trivial ?_
      have e2 := of_decide_eq_true e2
      unfold lessR
      rw [if_neg e, if_neg e1']
      congr 1
      symm
      rw [List.all_eq_false]
      refine ⟨j, List.mem_range.mpr (by lia), ?_⟩
      simp only [decide_eq_true_eq]
      lia
    · have e2 := of_decide_eq_false e2
      refine Sx.nil ⟨(), fun i hi => ?_, SubE.cons rfl (SubE.cons rfl SubE.nil), SubE.nil⟩
      rcases Nat.lt_succ_iff_lt_or_eq.mp hi with z | rfl
      · exact hI i z
      · lia
  · rintro _ hI
    refine Sx.ret Ex.bool trivial ?_
    unfold lessR
    rw [if_neg e, if_neg e1']
    congr 1
    symm
    rw [List.all_eq_true]
    intro i hi
    have hi := List.mem_range.mp hi
    exact decide_eq_true (hI i (by simp [rangeD]; lia))
end Mine
end

/-! Calc19 -/
section
namespace Mine
variable {C : Cx} {N : List (Str × NameKind)} {ρ ρ' : List (Str × D)} {μ μ' : List (Str × List D)} {k : Nat} {Q : Post} {ss : List Stmt}

/-- a comprehension whose list goes into its name before its variables go -/
theorem Sx.assignComp {y : Str} {py spos : Pos} {scope : Scope} {x : Str} {px pos : Pos} {elt iter : Expr} {ifs : List Expr} {ds : List D} (p : D → Bool) (f : D → D) (ix : Ixw C N ρ μ k iter ds)
    (ht : ∀ d ∈ ds, Ts C (relN scope.names N) ((x, d) :: Mine.inner scope.names ρ) (Mine.inner scope.names μ) k ifs (p d))
    (he : ∀ d ∈ ds, p d = true → Ex C (relN scope.names N) ((x, d) :: Mine.inner scope.names ρ) (Mine.inner scope.names μ) k elt (f d))
    (hsw : ∀ env, EnvOk N env → swapsWith (.ListComp elt [⟨.Name x px, iter, ifs, 0⟩] scope pos) (some (.Name y py)) spos.line env = pure true)
    (hr : Sx C N ((y, .list ((ds.filter p).map f)) :: ρ) (del y μ) k ss Q)
    (hy : Slot? N y := by first | exact .inl rfl | exact .inr rfl)
    (hS : scopeOkB N scope = true := by rfl) (hx : scope.names.lookup x = some .local ∨ scope.names.lookup x = some .cell := by first | exact .inl rfl | exact .inr rfl) :
    Sx C N ρ μ k (.Assign [.Name y py] (.ListComp elt [⟨.Name x px, iter, ifs, 0⟩] scope pos) spos :: ss) Q := by
  refine Sx.cons (J := fun a b => a = (y, .list ((ds.filter p).map f)) :: ρ ∧ b = del y μ) ?_ (by rintro _ _ ⟨rfl, rfl⟩; exact hr)
  intro env A s₀ ow s R F
  have P := F.pre R
  have S := scopeOk_of hS
  rw [exec_Assign_Name_used _ _ _ _ (hsw env F.eok)]
  refine wpAny_bind (wpAny_standAt (wpAny_bind ?_))
  rw [arm_evalThenUse_ListComp]
  refine wpAny_bind (wpAny_mono (wpAny_comprehension_free (use := some (PySem.assign (.Name y py) env)) (Q := fun _ s' => Sat C N ⟨fun a b => a = (y, .list ((ds.filter p).map f)) :: ρ ∧ b = del y μ, Q.ret, Q.brk⟩ env s₀ ow s .next s') rfl (ix.plain env) (clos_ok P.eok S) S.kind (names_ok S)
    (comp_run P S hx ix p f ht (fun d hd hp => ExZ.of (he d hd hp)) (RR := fun acc L r s' => compPost C.M A nox (some (PySem.assign (.Name y py) env)) (fun _ s' => Sat C N ⟨fun a b => a = (y, .list ((ds.filter p).map f)) :: ρ ∧ b = del y μ, Q.ret, Q.brk⟩ env s₀ ow s .next s') acc L r s') ?_)) (fun _ s' hq => wpAny_pure (wpAny_pure hq)) fun _ _ e => e)
  intro Da L s' m' ys hD hL hDL hk hn hl hd _
  show wpAny C.M A (PySem.assign (.Name y py) env (.ref Da)) _ _ s'
  have hLs : (s'.heap.get? L).isSome = true := by obtain ⟨o, _, _, e, _⟩ := hn; rw [e]; rfl
  have F₁ := F.own (l := .it) hL hk hLs
  have hnone : ow Da = none := F.new Da hD
  have hDen : Den (fun a => (ow.give L (some .it)) a = none) s'.heap (.list ((ds.filter p).map f)) (.ref Da) := by
    simp only [Den]
    refine ⟨Da, ys, rfl, ?_, hl.isList, hd.okMono fun a ha _ => ?_⟩
    · unfold Ow.give; rw [if_neg hDL]; exact hnone
    · unfold Ow.give; rw [if_neg ha.2.2]; exact ha.1
  refine PySem.wpAny_assign_Name (store_fm F₁ hy fun s'' st => ?_)
  have F₂ := F₁.setImm hDen st
  have hLlab : (ow.give L (some .it)) L = some .it := give_self
  refine ⟨m', Ns.onto hn fun o e => st.keep (by rw [hLlab]; intro q; cases q) e, fun h' hs' => ?_⟩
  have hne : ∀ b o, s.heap.get? b = some o → b ≠ L := fun b o e q => by rw [q, hL] at e; cases e
  have hlabs : ∀ b l, (ow.give L (some .it)) b = some l → l ≠ .it → ow b = some l ∧ b ≠ L := fun b l e q => by
    by_cases hb : b = L
    · subst hb; rw [hLlab] at e; injection e with e; exact absurd e.symm q
    · unfold Ow.give at e; rw [if_neg hb] at e; exact ⟨e, hb⟩
  refine ⟨_, _, ow, ⟨rfl, rfl⟩, F₂.relab (ow' := ow) ⟨h', s''.toks, rfl⟩ (fun b o hb _ e => hs'.extBut b o (fun q => hb (q ▸ hLlab)) e) (fun b l e q => (hlabs b l e q).1) (fun a ha => ?_) (fun a o e => F.old a o e) (fun z d e => ?_) (fun b o e => hs'.extBut b o (hne b o (F.ks.keep b o e)) (F₂.ks.keep b o e)), fun b o h e => ⟨rfl, ?_⟩⟩
  · by_cases hb : a = L
    · rw [hb]; exact F.new L hL
    · have : s''.heap.get? a = none := by rw [← hs'.2 a hb]; exact ha
      have := F₂.new a this
      unfold Ow.give at this
      rw [if_neg hb] at this; exact this
  · obtain ⟨v, h1, h2⟩ := F₂.imm z d e
    refine ⟨v, h1, (h2.move fun b o hb e => hs'.extBut b o (fun q => ?_) e).okMono fun b hb _ => ?_⟩
    · have hb : (ow.give L (some .it)) b = none := hb
      rw [q, hLlab] at hb; cases hb
    · have hb : (ow.give L (some .it)) b = none := hb
      show ow b = none
      by_cases q : b = L
      · rw [q, hLlab] at hb; cases hb
      · unfold Ow.give at hb; rw [if_neg q] at hb; exact hb
  · have hb := hne b o e
    refine hs'.extBut b o hb (st.keep ?_ (hk.keep b o e))
    unfold Ow.give
    rw [if_neg hb]
    rcases h with q | q <;> rw [q] <;> intro r <;> cases r
end Mine
end

/-! Calc20 -/
section
namespace Mine
variable {C : Cx} {N : List (Str × NameKind)} {ρ ρ' : List (Str × D)} {μ μ' : List (Str × List D)} {k : Nat} {Q : Post} {ss : List Stmt}

noncomputable def refsOf (vs : List Value) : List Addr := vs.filterMap fun v => match v with | .ref b => some b | _ => none
theorem refsOf_mem {vs : List Value} {b : Addr} (h : b ∈ refsOf vs) : Value.ref b ∈ vs := by
  obtain ⟨v, hv, e⟩ := List.mem_filterMap.mp h
  cases v <;> simp at e
  subst e; exact hv
theorem mem_refsOf {vs : List Value} {b : Addr} (h : Value.ref b ∈ vs) : b ∈ refsOf vs := List.mem_filterMap.mpr ⟨_, h, rfl⟩
theorem lookup_all {β : Type} {y : β} {b : Addr} : ∀ {as : List Addr}, b ∈ as → (as.map fun a => (a, y)).lookup b = some y
  | [], h => by cases h
  | a :: as, h => by
    simp only [List.map_cons, List.lookup_cons]
    by_cases q : b = a
    · subst q; simp
    · rw [beq_eq_false_iff_ne.mpr q]
      exact lookup_all ((List.mem_cons.mp h).resolve_left q)
/-- a list of new lists goes into a name -/
theorem Sx.assignRows {y : Str} {py spos : Pos} {scope : Scope} {x : Str} {px pos : Pos} {elt iter : Expr} {ds : List D} (f : D → List D) (hsub : SubE ρ' ρ) (hflat : ∀ x d, ρ'.lookup x = some d → Flat d) (ix : Ixw C N ρ' μ k iter ds)
    (he : ∀ d ∈ ds, Fx C (relN scope.names N) ((x, d) :: Mine.inner scope.names ρ') (Mine.inner scope.names μ) k elt (f d))
    (hr : Sx C N (del y ρ) ((y, ds.map fun d => .list (f d)) :: μ) k ss Q) (hset : setN y = true)
    (hsw : ∀ env, EnvOk N env → swapsWith (.ListComp elt [⟨.Name x px, iter, [], 0⟩] scope pos) (some (.Name y py)) spos.line env = pure false)
    (hy : Slot? N y := by first | exact .inl rfl | exact .inr rfl)
    (hS : scopeOkB N scope = true := by rfl) (hx : scope.names.lookup x = some .local ∨ scope.names.lookup x = some .cell := by first | exact .inl rfl | exact .inr rfl) :
    Sx C N ρ μ k (.Assign [.Name y py] (.ListComp elt [⟨.Name x px, iter, [], 0⟩] scope pos) spos :: ss) Q := by
  refine Sx.cons (J := fun a b => a = del y ρ ∧ b = (y, ds.map fun d => .list (f d)) :: μ) ?_ (by rintro _ _ ⟨rfl, rfl⟩; exact hr)
  intro env A s₀ ow s R F
  have P0 := (F.weaken hsub (SubE.refl μ)).pre R
  have P : Pre C N ρ' μ k env (fun a => s.heap.get? a = none) A s :=
    ⟨P0.eok, P0.rm, P0.base, ⟨fun x d e => let ⟨v, a, b⟩ := P0.sim.imm x d e; ⟨v, a, b.flat (hflat x d e)⟩, P0.sim.tur⟩, fun a ha => ha⟩
  have S := scopeOk_of hS
  refine wpAny_Assign_Name ?_ (hsw env F.eok)
  rw [eval_ListComp]
  refine wpAny_comprehension_free (use := Option.none) rfl (ix.plain env) (clos_ok P.eok S) S.kind (names_ok S) (comp_run (fl := true) P S hx ix (fun _ => true) (fun d => .list (f d)) (fun _ _ => .nil) (fun d hd _ => ExZ.new (he d hd)) (RR := fun acc L r s' => compPost C.M A nox Option.none _ acc L r s') ?_)
  intro Da L s' m' ys hD hL hDL hk hn hl hd hap
  refine ⟨m', hn, fun h' hs => ?_⟩
  rw [List.filter_eq_self.mpr (fun _ _ => rfl)] at hd
  have K : Ks s { s' with heap := h' } := by
    obtain ⟨h₁, tk, rfl, kk⟩ := hk
    exact ⟨h', tk, rfl, fun b o e => hs.extBut b o (fun q => by rw [q, hL] at e; cases e) (kk b o e)⟩
  have hl' : h'.PlainList Da ys := hl.extBut hs.extBut hDL
  have hd' : DenL (fun a => s.heap.get? a = none ∧ a ≠ Da ∧ a ≠ L) h' (ds.map fun d => .list (f d)) ys.toList := hd.move (keepOn_sameBut hs fun q => q.2.2 rfl)
  have hrow : ∀ b, Value.ref b ∈ ys.toList → s.heap.get? b = none ∧ b ≠ Da := fun b hb => by
    obtain ⟨i, hi, e⟩ := List.mem_iff_getElem.mp hb
    have hi' : i < (ds.map fun d => D.list (f d)).length := by rw [hd'.length]; exact hi
    have := hd'.at (List.getElem?_eq_getElem hi') (List.getElem?_eq_getElem hi)
    rw [e] at this
    simp only [List.getElem_map, Den] at this
    obtain ⟨a, its, e', o, _⟩ := this
    cases e'
    exact ⟨o.1, o.2.1⟩
  obtain ⟨F', ev⟩ := F.ownL (l := (Da :: refsOf ys.toList).map fun a => (a, Lab.mu y)) (fun p hp => by
      obtain ⟨a, ha, rfl⟩ := List.mem_map.mp hp
      rcases List.mem_cons.mp ha with rfl | ha
      · exact hD
      · exact (hrow a (refsOf_mem ha)).1) K (fun p hp => by
      obtain ⟨a, ha, rfl⟩ := List.mem_map.mp hp
      rcases List.mem_cons.mp ha with rfl | ha
      · exact plain_some hl'
      · obtain ⟨i, hi, e⟩ := List.mem_iff_getElem.mp (refsOf_mem ha)
        exact hd'.live (i := i) (by rw [List.getElem?_eq_getElem hi, e]))
  have hM : MutAt (ow.giveL ((Da :: refsOf ys.toList).map fun a => (a, Lab.mu y))) y h' (ds.map fun d => .list (f d)) Da := by
    refine ⟨giveL_some (lookup_all List.mem_cons_self), ys, fun q => (by rw [hset] at q; cases q), hl'.isList, hd'.length, fun i d v e1 e2 => ?_, hap rfl⟩
    have hi : i < ds.length := by have := (List.getElem?_eq_some_iff.mp e1).1; simpa using this
    rw [List.getElem?_map, List.getElem?_eq_getElem hi] at e1
    cases e1
    have := hd'.at (i := i) (by rw [List.getElem?_map, List.getElem?_eq_getElem hi]; rfl) e2
    simp only [Den] at this
    obtain ⟨a, its, rfl, o, l, z⟩ := this
    have hf := (he ds[i] (List.getElem_mem hi)).1
    exact .inr ⟨a, its, _, rfl, rfl, o.2.1, giveL_some (lookup_all (List.mem_cons_of_mem _ (mem_refsOf (List.mem_of_getElem? e2)))), l, hf, z.flat hf⟩
  exact store_fm F' hy fun s'' st => ⟨_, _, _, ⟨rfl, rfl⟩, F'.setMut hM st, ev.trans st.ev⟩
end Mine
end

/-! W6 -/
section
namespace Mine
variable {C : Cx} {N : List (Str × NameKind)} {ρ ρ' : List (Str × D)} {μ μ' : List (Str × List D)} {k : Nat} {Q : Post} {ss : List Stmt}

noncomputable def rowD (r : List Int) : D := .list (r.map D.int)
noncomputable def rowAt (net : List (List Int)) (i : Nat) : List Int := net[i]?.getD []
noncomputable def get2 (net : List (List Int)) (i j : Nat) : Int := (rowAt net i)[j]?.getD 0
noncomputable def set2 (net : List (List Int)) (i j : Nat) (v : Int) : List (List Int) := net.set i ((rowAt net i).set j v)
noncomputable def Sq (n : Nat) (net : List (List Int)) : Prop := net.length = n ∧ ∀ i, i < n → (rowAt net i).length = n
theorem Sq.set2 {n i j : Nat} {net : List (List Int)} {v : Int} (h : Sq n net) (hi : i < n) : Sq n (set2 net i j v) := by
  refine ⟨by unfold Mine.set2; rw [List.length_set]; exact h.1, fun m hm => ?_⟩
  unfold Mine.set2 rowAt
  by_cases q : m = i
  · subst q
    rw [List.getElem?_set_self (by rw [h.1]; exact hi)]
    simp only [Option.getD_some, List.length_set]
    exact h.2 m hm
  · rw [List.getElem?_set_ne (Ne.symm q)]
    exact h.2 m hm
theorem netD_get {n i : Nat} {net : List (List Int)} (h : Sq n net) (hi : i < n) : (net.map rowD)[i]? = some (rowD (rowAt net i)) := by
  have : i < net.length := by rw [h.1]; exact hi
  rw [List.getElem?_map, List.getElem?_eq_getElem this]
  unfold rowAt
  rw [List.getElem?_eq_getElem this]; rfl
theorem rowD_get {n i j : Nat} {net : List (List Int)} (h : Sq n net) (hi : i < n) (hj : j < n) : ((rowAt net i).map D.int)[j]? = some (.int (get2 net i j)) := by
  have : j < (rowAt net i).length := by rw [h.2 i hi]; exact hj
  rw [List.getElem?_map, List.getElem?_eq_getElem this]
  unfold get2
  rw [List.getElem?_eq_getElem this]; rfl
/-- an item of a table -/
theorem Ew.get2 {n : Nat} {net : List (List Int)} {i j : Int} {e ie je : Expr} {p1 p2 : Pos} (h : Sq n net) (hn : n ≤ 100) (he : Ew C N ρ μ k e (.list (net.map rowD))) (hi : Ex C N ρ μ k ie (.int i)) (hj : Ex C N ρ μ k je (.int j)) (i0 : 0 ≤ i) (i1 : i < n) (j0 : 0 ≤ j) (j1 : j < n) :
    Ex C N ρ μ k (.Subscript (.Subscript e ie p1) je p2) (.int (Mine.get2 net i.toNat j.toNat)) :=
  Ex.ofFlat (Ew.sub (Ew.sub he (Ew.of hi) (Get.list i0 (by lia) (netD_get h (by lia)))) (Ew.of hj) (Get.list j0 (by lia) (rowD_get h (by lia) (by lia)))) trivial
theorem Sx.set2 {x : Str} {px pr po pos : Pos} {re ie e : Expr} {n : Nat} {net : List (List Int)} {r i v : Int} (hm : μ.lookup x = some (net.map rowD)) (hsx : setN x = true) (h : Sq n net) (hn : n ≤ 100) (he : Ex C N ρ μ k e (.int v)) (hre : Ex C N ρ μ k re (.int r)) (hi : Ex C N ρ μ k ie (.int i))
    (r0 : 0 ≤ r) (r1 : r < n) (i0 : 0 ≤ i) (i1 : i < n) (hr : Sx C N (del x ρ) ((x, (Mine.set2 net r.toNat i.toNat v).map rowD) :: μ) k ss Q) (hd : (x == ("__debug__" : Str)) = false := by decide) (hc : (x == ("__classdict__" : Str)) = false := by decide)
    (hs : ∀ env, swapsWith e (some (.Subscript (.Subscript (.Name x px) re pr) ie po)) pos.line env = pure false := by intro _; rfl) : Sx C N ρ μ k (.Assign [.Subscript (.Subscript (.Name x px) re pr) ie po] e pos :: ss) Q := by
  refine Sx.setitem2 hm hsx he trivial hre hi r0 (by rw [List.length_map, h.1]; exact r1) (by rw [List.length_map, h.1]; simp only [sizeLine]; lia) (netD_get h (by lia)) i0 (by rw [List.length_map, h.2 _ (by lia)]; exact i1) (by rw [List.length_map, h.2 _ (by lia)]; simp only [sizeLine]; lia) ?_ hd hc hs
  have : (net.map rowD).set r.toNat (.list (((rowAt net r.toNat).map D.int).set i.toNat (.int v))) = (Mine.set2 net r.toNat i.toNat v).map rowD := by
    unfold Mine.set2
    rw [List.map_set]
    unfold rowD
    rw [List.map_set]
  rw [this]
  exact hr
noncomputable def inc (l : List Int) (i : Nat) : List Int := l.set i (l[i]?.getD 0 + 1)
/-- one step of the page's net -/
noncomputable def tstep (par pr : List Int) (st : List (List Int) × List Int) (j : Nat) : List (List Int) × List Int :=
  let i := (par[j]?.getD 0).toNat
  let pull := (2 : Int).fdiv (pr[j]?.getD 0)
  let n1 := set2 st.1 i j (-pull)
  let n2 := set2 n1 j i (-pull)
  let n3 := set2 n2 i i (get2 n2 i i + pull)
  let n4 := set2 n3 j j (get2 n3 j j + pull)
  (n4, inc (inc st.2 i) j)
noncomputable def tstate (par pr : List Int) : Nat → List (List Int) × List Int
  | 0 => (List.replicate par.length (List.replicate par.length 0), List.replicate par.length 0)
  | m + 1 => tstep par pr (tstate par pr m) (m + 1)
noncomputable def turnedR (par pr : List Int) : List (List Int) :=
  let st := tstate par pr (par.length - 1)
  (List.range par.length).map fun (i : Nat) => (List.range par.length).map fun (j : Nat) => 2 * (2 - st.2[i]?.getD 0) * (2 - st.2[j]?.getD 0) - pr.sum * get2 st.1 i j
structure TOk (par pr : List Int) : Prop where
  len : pr.length = par.length
  pos : 0 < par.length
  most : par.length ≤ 10
  parOk : ∀ j : Nat, 0 < j → j < par.length → 0 ≤ par[j]?.getD 0 ∧ par[j]?.getD 0 < par.length
  prOk : ∀ j : Nat, 0 < j → j < par.length → pr[j]?.getD 0 = 1 ∨ pr[j]?.getD 0 = 2
  sum : 0 ≤ pr.sum ∧ pr.sum ≤ 100
structure TSt (n m : Nat) (st : List (List Int) × List Int) : Prop where
  sq : Sq n st.1
  len : st.2.length = n
  deg : ∀ i : Nat, 0 ≤ st.2[i]?.getD 0 ∧ st.2[i]?.getD 0 ≤ 2 * m
theorem inc_len (l : List Int) (i : Nat) : (inc l i).length = l.length := by simp [inc]
theorem inc_get (l : List Int) (i j : Nat) : (inc l i)[j]?.getD 0 = l[j]?.getD 0 ∨ (inc l i)[j]?.getD 0 = l[j]?.getD 0 + 1 := by
  unfold inc
  by_cases q : i = j
  · subst q
    by_cases h : i < l.length
    · right; rw [List.getElem?_set_self h]; rfl
    · left; rw [List.set_eq_of_length_le (by lia)]
  · left; rw [List.getElem?_set_ne q]
theorem tstate_ok {par pr : List Int} (h : TOk par pr) : ∀ m, m < par.length → TSt par.length m (tstate par pr m)
  | 0, _ => by
    refine ⟨⟨by simp [tstate], fun i hi => by simp [tstate, rowAt, hi]⟩, by simp [tstate], fun i => ?_⟩
    simp only [tstate]
    by_cases q : i < par.length
    · simp [q]
    · simp [q]
  | m + 1, hm => by
    have ih := tstate_ok h m (by lia)
    have hp := h.parOk (m + 1) (by lia) hm
    refine ⟨?_, ?_, fun i => ?_⟩
    · simp only [tstate, tstep]
      exact (((ih.sq.set2 (by lia)).set2 hm).set2 (by lia)).set2 hm
    · simp only [tstate, tstep, inc_len]; exact ih.len
    · simp only [tstate, tstep]
      have a := ih.deg i
      have b := inc_get (tstate par pr m).2 (par[m + 1]?.getD 0).toNat i
      have c := inc_get (inc (tstate par pr m).2 (par[m + 1]?.getD 0).toNat) (m + 1) i
      lia
structure Tp6 (C : Cx) : Prop where
  tp : Tp2 C
  sum : C.G (Str.ofString "sum") = none ∧ C.B (Str.ofString "sum") = some (.builtin "sum")
theorem walk_turned (H : Tp6 C) {par pr : List Int} (h : TOk par pr) :
    Sx C (fnN 17) ([Str.ofString "parents", Str.ofString "prices"].zip [.list (par.map D.int), .list (pr.map D.int)]) [] k (fnB 17) ⟨fun _ _ => False, fun r => r = .list ((turnedR par pr).map rowD), fun _ _ => False⟩ := by
  have hmost := h.most
  have hpos := h.pos
  have hlen := h.len
  have clen : Clv C k (.builtin "len") [.list (par.map D.int)] (.int par.length) := by
    have := Clv.lenList (C := C) (k := k) (xs := par.map D.int) (by simp; lia)
    rwa [List.length_map] at this
  refine Sx.assign (d := .int par.length) (Ex.callB (Vx.builtin rfl H.tp.len.1 H.tp.len.2) (EwL.cons (Ew.of (Ex.name rfl)) EwL.nil) clen) ?_
  refine Sx.assignRows (ρ' := [(Str.ofString "size", .int par.length)]) (fun _ => List.replicate par.length (.int 0)) (SubE.cons rfl SubE.nil) (fun x d e => ?_) (Ixo.range1 (Vx.builtin rfl H.tp.tp.range.1 H.tp.tp.range.2) (Ex.name rfl) (by lia) (by lia) (by lia)) (fun d hd => ?_) ?_ rfl (fun env E => swaps_of E rfl)
  · by_cases q : x = Str.ofString "size"
    · subst q; simp only [List.lookup_cons, beq_self_eq_true] at e; cases e; trivial
    · rw [lookup_cons_ne q] at e; cases e
  · show Fx _ _ _ _ _ _ (List.replicate ((par.length : Nat) : Int).toNat (.int 0))
    exact Fx.mul (Ew.of (Ex.list (ExL.cons Ex.int ExL.nil))) (Ex.name rfl) trivial (by lia) (by lia)
  have e0 : ((rangeD 0 (par.length : Int)).map fun _ => D.list (List.replicate par.length (.int 0))) = (tstate par pr 0).1.map rowD := by
    simp only [rangeD, tstate, rowD, List.map_map, Function.comp_def, List.map_const', List.length_range, List.map_replicate]
    rw [show ((par.length : Int) - 0).toNat = par.length by lia]
  rw [e0]
  refine Sx.assignF (xs := (tstate par pr 0).2.map D.int) ?_ ?_
  · have : (tstate par pr 0).2.map D.int = List.replicate ((par.length : Nat) : Int).toNat (.int 0) := by simp [tstate]
    rw [this]
    exact Fx.mul (Ew.of (Ex.list (ExL.cons Ex.int ExL.nil))) (Ex.name rfl) trivial (by lia) (by lia)
  refine Sx.for_ (σ := Nat) (fun m st => st = m ∧ m < par.length) (fun _ => [(Str.ofString "size", .int par.length), (Str.ofString "parents", .list (par.map D.int)), (Str.ofString "prices", .list (pr.map D.int))]) (fun m => [(Str.ofString "degrees", (tstate par pr m).2.map D.int), (Str.ofString "net", (tstate par pr m).1.map rowD)]) (fun _ _ => False)
    (Ixo.range2 (Vx.builtin rfl H.tp.tp.range.1 H.tp.tp.range.2) Ex.int (Ex.name rfl) (by lia) (by lia) (by lia) (by lia) (by lia)) 0 ⟨rfl, hpos⟩ (SubE.cons rfl (SubE.cons rfl (SubE.cons rfl SubE.nil))) (SubE.cons rfl (SubE.cons rfl SubE.nil)) ?_ ?_ (fun _ _ e => e.elim)
  · rintro idx d m hd ⟨rfl, hm⟩
    obtain ⟨rfl, hj⟩ := rangeD_get hd
    have hjn : m + 1 < par.length := by lia
    have hst := tstate_ok h m hm
    have hpa := h.parOk (m + 1) (by lia) hjn
    have hpr := h.prOk (m + 1) (by lia) hjn
    generalize hi : par[m + 1]?.getD 0 = i at hpa
    generalize hp : pr[m + 1]?.getD 0 = p at hpr
    have hpar : par[m + 1]? = some i := by rw [List.getElem?_eq_getElem hjn] at hi ⊢; rw [← hi]; rfl
    have hprj : pr[m + 1]? = some p := by rw [List.getElem?_eq_getElem (by lia)] at hp ⊢; rw [← hp]; rfl
    rw [show (1 : Int) + (m : Int) = ((m + 1 : Nat) : Int) by lia]
    refine Sx.assign (d := .int i) (Ex.ofFlat (Ew.sub (Ew.of (Ex.name rfl)) (Ew.of (Ex.name rfl)) (Get.list (by lia) (by lia) (by rw [Int.toNat_natCast, List.getElem?_map, hpar]; rfl))) trivial) ?_
    refine Sx.assign (d := .int ((2 : Int).fdiv p)) (Ex.bin Ex.int (Ex.ofFlat (Ew.sub (d' := .int p) (Ew.of (Ex.name rfl)) (Ew.of (Ex.name rfl)) (Get.list (by lia) (by lia) (by rw [Int.toNat_natCast, List.getElem?_map, hprj]; rfl))) trivial) (Bin.fdiv (by lia) (PyProof.noPylong_small (by lia)))) ?_
    have hts : tstate par pr (m + 1) = tstep par pr (tstate par pr m) (m + 1) := rfl
    unfold tstep at hts
    rw [hi, hp] at hts
    simp only at hts
    generalize tstate par pr m = st at hst hts ⊢
    generalize (2 : Int).fdiv p = pull at hts ⊢
    have hn : par.length ≤ 100 := by lia
    have sq0 := hst.sq
    refine Sx.set2 rfl rfl sq0 hn (Ex.neg (Ex.name rfl)) (Ex.name rfl) (Ex.name rfl) (by lia) (by lia) (by lia) (by lia) ?_
    rw [Int.toNat_natCast]
    have sq1 := sq0.set2 (j := m + 1) (v := -pull) (show i.toNat < par.length by lia)
    generalize Mine.set2 st.1 i.toNat (m + 1) (-pull) = n1 at hts sq1 ⊢
    refine Sx.set2 rfl rfl sq1 hn (Ex.neg (Ex.name rfl)) (Ex.name rfl) (Ex.name rfl) (by lia) (by lia) (by lia) (by lia) ?_
    rw [Int.toNat_natCast]
    have sq2 := sq1.set2 (j := i.toNat) (v := -pull) hjn
    generalize Mine.set2 n1 (m + 1) i.toNat (-pull) = n2 at hts sq2 ⊢
    refine Sx.set2 rfl rfl sq2 hn (Ex.bin (Ew.get2 sq2 hn (Ew.mut rfl) (Ex.name rfl) (Ex.name rfl) (by lia) (by lia) (by lia) (by lia)) (Ex.name rfl) Bin.add) (Ex.name rfl) (Ex.name rfl) (by lia) (by lia) (by lia) (by lia) ?_
    have sq3 := sq2.set2 (j := i.toNat) (v := Mine.get2 n2 i.toNat i.toNat + pull) (show i.toNat < par.length by lia)
    generalize Mine.set2 n2 i.toNat i.toNat (Mine.get2 n2 i.toNat i.toNat + pull) = n3 at hts sq3 ⊢
    refine Sx.set2 rfl rfl sq3 hn (Ex.bin (Ew.get2 sq3 hn (Ew.mut rfl) (Ex.name rfl) (Ex.name rfl) (by lia) (by lia) (by lia) (by lia)) (Ex.name rfl) Bin.add) (Ex.name rfl) (Ex.name rfl) (by lia) (by lia) (by lia) (by lia) ?_
    rw [Int.toNat_natCast]
    have hl0 : st.2.length = par.length := hst.len
    have item : ∀ (l : List Int) (q : Nat), q < l.length → (l.map D.int)[q]? = some (.int (l[q]?.getD 0)) := fun l q hq => by rw [List.getElem?_map, List.getElem?_eq_getElem hq]; rfl
    refine Sx.setitem (d := .int (st.2[i.toNat]?.getD 0 + 1)) rfl (flat_ints _) rfl (Ex.bin (Ex.ofFlat (Ew.sub (Ew.mut rfl) (Ew.of (Ex.name rfl)) (Get.list (by lia) (by lia) (item _ _ (by lia)))) trivial) Ex.int Bin.add) trivial (Ex.name rfl) (by lia) (by simp; lia) (by simp [sizeLine]; lia) ?_
    rw [← List.map_set]
    refine Sx.setitem (d := .int ((inc st.2 i.toNat)[m + 1]?.getD 0 + 1)) (xs := (inc st.2 i.toNat).map D.int) rfl (flat_ints _) rfl (Ex.bin (Ex.ofFlat (Ew.sub (Ew.mut rfl) (Ew.of (Ex.name rfl)) (Get.list (by lia) (by lia) (item (inc st.2 i.toNat) _ (by rw [Int.toNat_natCast, inc_len]; lia)))) trivial) Ex.int Bin.add) trivial (Ex.name rfl) (by lia) (by rw [List.length_map, inc_len]; lia) (by rw [List.length_map, inc_len]; simp only [sizeLine]; lia) ?_
    rw [Int.toNat_natCast, ← List.map_set]
    refine Sx.nil ⟨m + 1, ⟨rfl, hjn⟩, SubE.cons rfl (SubE.cons rfl (SubE.cons rfl SubE.nil)), ?_⟩
    rw [hts]
    exact SubE.cons rfl (SubE.cons rfl SubE.nil)
  · rintro m ⟨hm, hmlt⟩
    have hlr : (rangeD 1 (par.length : Int)).length = par.length - 1 := by simp [rangeD]
    rw [hlr] at hm hmlt
    subst hm
    have hst := tstate_ok h (par.length - 1) (by lia)
    refine Sx.assign (Ex.callB (Vx.builtin rfl H.sum.1 H.sum.2) (EwL.cons (Ew.of (Ex.name rfl)) EwL.nil) Clv.sum) ?_
    generalize hS : tstate par pr (par.length - 1) = st at hst ⊢
    let val : Int → Int → Int := fun i j => 2 * (2 - st.2[i.toNat]?.getD 0) * (2 - st.2[j.toNat]?.getD 0) - pr.sum * Mine.get2 st.1 i.toNat j.toNat
    let toI : D → Int := fun d => match d with | .int i => i | _ => 0
    have hl0 : st.2.length = par.length := hst.len
    have hn : par.length ≤ 100 := by lia
    have hsum := h.sum
    have item : ∀ (l : List Int) (q : Nat), q < l.length → (l.map D.int)[q]? = some (.int (l[q]?.getD 0)) := fun l q hq => by rw [List.getElem?_map, List.getElem?_eq_getElem hq]; rfl
    refine Sx.retN (ρ' := [(Str.ofString "whole", .int pr.sum), (Str.ofString "size", .int par.length)]) (d := .list ((rangeD 0 par.length).map fun d => .list ((rangeD 0 par.length).map fun e => .int (val (toI d) (toI e))))) (SubE.cons rfl (SubE.cons rfl SubE.nil)) (fun x d e => ?_) (Ex.comp1 _ (Ixo.range1 (Vx.builtin rfl H.tp.tp.range.1 H.tp.tp.range.2) (Ex.name rfl) (by lia) (by lia) (by lia)) fun d hd => ?_) ?_
    · by_cases q : x = Str.ofString "whole"
      · subst q; simp only [List.lookup_cons, beq_self_eq_true] at e; cases e; trivial
      · rw [lookup_cons_ne q] at e
        by_cases q : x = Str.ofString "size"
        · subst q; simp only [List.lookup_cons, beq_self_eq_true] at e; cases e; trivial
        · rw [lookup_cons_ne q] at e; cases e
    · obtain ⟨i, hi⟩ := List.mem_iff_getElem?.mp hd
      obtain ⟨rfl, hi'⟩ := rangeD_get hi
      refine Ex.comp1 _ (Ixo.range1 (Vx.builtin rfl H.tp.tp.range.1 H.tp.tp.range.2) (Ex.name rfl) (by lia) (by lia) (by lia)) fun e he => ?_
      obtain ⟨j, hj⟩ := List.mem_iff_getElem?.mp he
      obtain ⟨rfl, hj'⟩ := rangeD_get hj
      have di := hst.deg (0 + (i : Int)).toNat
      have dj := hst.deg (0 + (j : Int)).toNat
      exact Ex.bin (Ex.bin (Ex.bin Ex.int (Ex.bin Ex.int (Ex.ofFlat (Ew.sub (Ew.mut rfl) (Ew.of (Ex.name rfl)) (Get.list (by lia) (by lia) (item _ _ (by lia)))) trivial) Bin.sub) (Bin.mul (mul_smallL (by decide)))) (Ex.bin Ex.int (Ex.ofFlat (Ew.sub (Ew.mut rfl) (Ew.of (Ex.name rfl)) (Get.list (by lia) (by lia) (item _ _ (by lia)))) trivial) Bin.sub) (Bin.mul (mul_small (by lia)))) (Ex.bin (Ex.name rfl) (Ew.get2 hst.sq hn (Ew.mut rfl) (Ex.name rfl) (Ex.name rfl) (by lia) (by lia) (by lia) (by lia)) (Bin.mul (mul_smallL (by lia)))) Bin.sub
    · show D.list _ = D.list _
      congr 1
      unfold turnedR
      simp only [hS, rangeD, List.map_map, Function.comp_def, rowD, show ((par.length : Int) - 0).toNat = par.length by lia, val, toI, Int.zero_add, Int.toNat_natCast]
end Mine
end

/-! W7 -/
section
namespace Mine
variable {C : Cx} {N : List (Str × NameKind)} {ρ ρ' : List (Str × D)} {μ μ' : List (Str × List D)} {k : Nat} {Q : Post} {ss : List Stmt} {mN : Str → Option Value}

/-! what the class makes of a text -/
noncomputable def bump (cnt : List Int) (b : Nat) : List Int :=
  let c := if cnt.length ≤ b then cnt ++ List.replicate (b - cnt.length + 1) 0 else cnt
  c.set b (c[b]?.getD 0 + 1)
structure Go where
  cnt : List Int
  b : Nat
  n : Int
  nt : Int
noncomputable def wsGo : List Nat → Go → Go
  | [], g => g
  | c :: r, g => if c = 32 then wsGo r ⟨g.cnt, g.b + 1, g.n + 1, g.nt⟩ else if c = 9 then wsGo r ⟨bump g.cnt g.b, 0, g.n + 1, g.nt + 1⟩ else g
noncomputable def wsR (l : List Nat) : Ws := let g := wsGo l ⟨[], 0, 0, 0⟩; ⟨S l, g.n, g.nt, g.cnt, g.b⟩
structure Go.Ok (m : Nat) (g : Go) : Prop where
  len : g.cnt.length ≤ m
  b : g.b ≤ m
  one : ∀ c ∈ g.cnt, 0 ≤ c ∧ c ≤ m
  n : 0 ≤ g.n ∧ g.n ≤ m
  nt : 0 ≤ g.nt ∧ g.nt ≤ m
theorem bump_len (cnt : List Int) (b : Nat) : (bump cnt b).length = max cnt.length (b + 1) := by
  unfold bump
  simp only [List.length_set]
  split
  · simp; lia
  · lia
theorem bump_mem {cnt : List Int} {b : Nat} {m : Int} (h : ∀ c ∈ cnt, 0 ≤ c ∧ c ≤ m) (hm : 0 ≤ m) : ∀ c ∈ bump cnt b, 0 ≤ c ∧ c ≤ m + 1 := by
  intro c hc
  unfold bump at hc
  have h' : ∀ c ∈ (if cnt.length ≤ b then cnt ++ List.replicate (b - cnt.length + 1) 0 else cnt), 0 ≤ c ∧ c ≤ m := by
    intro c hc
    split at hc
    · rcases List.mem_append.mp hc with q | q
      · exact h c q
      · rw [List.eq_of_mem_replicate q]; lia
    · exact h c hc
  rcases List.mem_or_eq_of_mem_set hc with q | q
  · have := h' c q; lia
  · subst q
    generalize (if cnt.length ≤ b then cnt ++ List.replicate (b - cnt.length + 1) 0 else cnt) = l at h'
    cases e : l[b]? with
    | none => simp; lia
    | some v => have := h' v (List.mem_of_getElem? e); simp; lia
theorem Go.Ok.step {m : Nat} {g : Go} (h : g.Ok m) : (⟨g.cnt, g.b + 1, g.n + 1, g.nt⟩ : Go).Ok (m + 1) ∧ (⟨bump g.cnt g.b, 0, g.n + 1, g.nt + 1⟩ : Go).Ok (m + 1) := by
  obtain ⟨h1, h2, h3, h4, h5⟩ := h
  refine ⟨⟨by show g.cnt.length ≤ m + 1; lia, by show g.b + 1 ≤ m + 1; lia, fun c hc => by have := h3 c hc; lia, by show 0 ≤ g.n + 1 ∧ g.n + 1 ≤ _; lia, by show 0 ≤ g.nt ∧ g.nt ≤ _; lia⟩, ⟨?_, by show 0 ≤ m + 1; lia, fun c hc => ?_, by show 0 ≤ g.n + 1 ∧ g.n + 1 ≤ _; lia, by show 0 ≤ g.nt + 1 ∧ g.nt + 1 ≤ _; lia⟩⟩
  · show (bump g.cnt g.b).length ≤ m + 1
    rw [bump_len]; lia
  · have := bump_mem (b := g.b) h3 (by lia) c hc
    lia
theorem Go.Ok.weaken {m n : Nat} {g : Go} (h : g.Ok m) (hn : m ≤ n) : g.Ok n := by
  obtain ⟨h1, h2, h3, h4, h5⟩ := h
  exact ⟨by lia, by lia, fun c hc => by have := h3 c hc; lia, by lia, by lia⟩
theorem wsGo_ok : ∀ (l : List Nat) (m : Nat) (g : Go), g.Ok m → (wsGo l g).Ok (m + l.length)
  | [], m, g, h => h
  | c :: r, m, g, h => by
    unfold wsGo
    have := h.step
    split
    · have := wsGo_ok r (m + 1) _ this.1
      exact this.weaken (by simp; lia)
    · split
      · have := wsGo_ok r (m + 1) _ this.2
        exact this.weaken (by simp; lia)
      · exact h.weaken (by lia)
theorem go0 : (⟨[], 0, 0, 0⟩ : Go).Ok 0 := ⟨by simp, by simp, fun c hc => by simp at hc, by simp, by simp⟩
theorem wsR_ok {l : List Nat} (h : l.length ≤ 100) : (wsR l).Ok := by
  have := wsGo_ok l 0 _ go0
  obtain ⟨h1, h2, h3, h4, h5⟩ := this
  refine ⟨by show (wsGo l _).cnt.length ≤ 1000; lia, fun c hc => by have := h3 c hc; lia, ?_⟩
  show 0 ≤ ((wsGo l _).b : Int) ∧ ((wsGo l _).b : Int) ≤ 1000
  lia

structure Tp7 (C : Cx) (mN : Str → Option Value) : Prop where
  tp : Tp5 C mN
  cls : C.G (Str.ofString "Whitespace") = some (.ref wsC)
  mc : ∃ mc, readsIn C.K wsC mc = true ∧ (∃ t, findCls C.K (.ref wsC) mc (Str.ofString "S") = some (.val (.str (S [32]) t))) ∧ ∃ t, findCls C.K (.ref wsC) mc (Str.ofString "T") = some (.val (.str (S [9]) t))
/-- a name of the class -/
theorem Ex.clsStr {o : Expr} {y : Str} {pos : Pos} {x : Str} {mc : Value} (h : Vx C N ρ μ k o (.ref wsC)) (hr : readsIn C.K wsC mc = true) (hv : ∃ t, findCls C.K (.ref wsC) mc y = some (.val (.str x t)))
    (he : ∀ env, eval (.Attribute o y pos) env = (do
      let o' ← eval o env
      standAt pos.atName
      let r ← holding [o'] (getAttr o' y true)
      letTemporaryGo o o' r
      pure r) := by intro _; rfl) : Ex C N ρ μ k (.Attribute o y pos) (.str x) := by
  intro env ok A s P
  obtain ⟨t, hv⟩ := hv
  refine Attribute_any_ (wpAny_mono (h env ok A s P) (fun v s₁ z => ?_) fun _ _ e => e) (he env)
  obtain ⟨z, rfl⟩ := z
  exact cls_value (prog := C.prog) (w := C.w) (P.keeps z).base hr hv rfl ⟨z.trans (Ks.tok _ _), den_str⟩
/-- the one name that an object under way has -/
theorem Ex.shRaw (X : ClsOk C mN) {o : Expr} {pos : Pos} {a dA : Addr} {x : Str} (h : Ex C N ρ μ k o (.sh a dA x)) (hn : mN (Str.ofString "raw") = Option.none)
    (he : ∀ env, eval (.Attribute o (Str.ofString "raw") pos) env = (do
      let o' ← eval o env
      standAt pos.atName
      let r ← holding [o'] (getAttr o' (Str.ofString "raw") true)
      letTemporaryGo o o' r
      pure r) := by intro _; rfl) : Ex C N ρ μ k (.Attribute o (Str.ofString "raw") pos) (.str x) := by
  intro env ok A s P
  refine Attribute_any_ (wpAny_mono (h env ok A s P) (fun v s₁ z => ?_) fun _ _ e => e) (he env)
  obtain ⟨z, zd⟩ := z
  simp only [Den] at zd
  obtain ⟨rfl, o1, o2, ob, m, h1, ⟨h2, h3, h4, h5⟩, h6, h7, t, h8⟩ := zd
  have Z := X.1 _ (P.keeps z).base
  obtain ⟨nm, q, bs, sn, sub, col, dd, k0, k1, k2, k3, k5, hC⟩ := Z.obj
  obtain ⟨hh', g, dr, tk, os⟩ := s₁
  exact load_attr hC Z.ns X.2.1 hn noObj_raw ⟨ob, h1, h2, h3, .inr ⟨dA, h4, h5, h6⟩⟩ h8 rfl ⟨z.trans (Ks.tok _ _), den_str⟩
noncomputable def goR (x dA : Addr) (l : List Nat) (g : Go) : List (Str × D) := [(Str.ofString "nt", .int g.nt), (Str.ofString "n", .int g.n), (Str.ofString "b", .int g.b), (Str.ofString "T", .str (S [9])), (Str.ofString "S", .str (S [32])), (Str.ofString "self", .sh x dA (S l))]
noncomputable def pad (cnt : List Int) (b : Nat) : List Int := if cnt.length ≤ b then cnt ++ List.replicate (b - cnt.length + 1) 0 else cnt
noncomputable def midB : List Stmt := ((mB 1).drop 1).take 4
theorem walk_mid (H : Tp7 C mN) {x dA : Addr} {l : List Nat} (hl : l.length ≤ 100) :
    Sx C (mNm 1) [(Str.ofString "self", .sh x dA (S l)), (Str.ofString "ws", .str (S l))] [] k midB
      ⟨fun ρ' μ' => SubE [(Str.ofString "nt", .int (wsR l).nt), (Str.ofString "n", .int (wsR l).n), (Str.ofString "b", .int (wsR l).tr), (Str.ofString "self", .sh x dA (S l))] ρ' ∧ SubE [(Str.ofString "count", (wsR l).cnt.map D.int)] μ', fun _ => False, fun _ _ => False⟩ := by
  obtain ⟨mc, hr, hS, hT⟩ := H.mc
  refine Sx.assignSw [Str.ofString "S", Str.ofString "T"] (ds := [.str (S [32]), .str (S [9])]) (ExL.cons (Ex.clsStr (Vx.global rfl H.cls) hr hS) (ExL.cons (Ex.clsStr (Vx.global rfl H.cls) hr hT) ExL.nil)) rfl ?_ (by intro p hp; simp at hp; rcases hp with rfl | rfl <;> exact .inl rfl) (by decide) (fun env E => swapped_of E rfl)
  refine Sx.assignF (Fx.list ExL.nil) ?_
  refine Sx.assign3 Ex.int trivial ?_
  have hfin := wsGo_ok l 0 _ go0
  rw [Nat.zero_add] at hfin
  refine Sx.for_ (σ := Go) (fun i g => g.Ok i ∧ wsGo (l.drop i) g = wsGo l ⟨[], 0, 0, 0⟩) (goR x dA l) (fun g => [(Str.ofString "count", g.cnt.map D.int)]) (fun ρ' μ' => SubE (goR x dA l (wsGo l ⟨[], 0, 0, 0⟩)) ρ' ∧ SubE [(Str.ofString "count", (wsGo l ⟨[], 0, 0, 0⟩).cnt.map D.int)] μ')
    (Ixo.str (Ex.shRaw H.tp.cls (Ex.name rfl) (H.tp.no _ rfl)) (by rw [S_len]; simp only [sizeLine]; lia)) ⟨[], 0, 0, 0⟩ ⟨go0, rfl⟩ ?_ ?_ ?_ ?_ ?_
  · exact SubE.cons rfl (SubE.cons rfl (SubE.cons rfl (SubE.cons rfl (SubE.cons rfl (SubE.cons rfl SubE.nil)))))
  · exact SubE.cons rfl SubE.nil
  · rintro i d g hd ⟨hg, hrest⟩
    obtain ⟨c, hc, rfl⟩ := signsD_get hd
    have hc' : l[i]? = some c := by simpa [S] using hc
    have hi : i < l.length := (List.getElem?_eq_some_iff.mp hc').1
    have hdrop : l.drop i = c :: l.drop (i + 1) := by
      rw [List.drop_eq_getElem_cons hi]
      congr 1
      exact (List.getElem?_eq_some_iff.mp hc').2
    rw [hdrop] at hrest
    generalize wsGo l ⟨[], 0, 0, 0⟩ = fin at hrest hfin ⊢
    unfold wsGo at hrest
    have hst := hg.step
    obtain ⟨g1, g2, g3, g4, g5⟩ := hg
    refine Sx.if_ (J := fun ρ' μ' => ∃ g', (g'.Ok (i + 1) ∧ wsGo (l.drop (i + 1)) g' = fin) ∧ SubE (goR x dA l g') ρ' ∧ SubE [(Str.ofString "count", g'.cnt.map D.int)] μ') (c := S [c] == S [32]) (Tx.cmp (Ex.name rfl) (Ex.name rfl) Cmp.eqStr) (fun e => ?_) (fun e => ?_) (fun _ _ h => Sx.nil h)
    · rw [S_beq] at e
      have e32 : c = 32 := by simpa using e
      rw [if_pos e32] at hrest
      refine Sx.assign (Ex.bin (Ex.name rfl) Ex.int Bin.add) ?_
      refine Sx.assign (Ex.bin (Ex.name rfl) Ex.int Bin.add) ?_
      exact Sx.nil ⟨⟨g.cnt, g.b + 1, g.n + 1, g.nt⟩, ⟨hst.1, hrest⟩, SubE.cons rfl (SubE.cons rfl (SubE.cons rfl (SubE.cons rfl (SubE.cons rfl (SubE.cons rfl SubE.nil))))), SubE.cons rfl SubE.nil⟩
    · rw [S_beq] at e
      have e32 : c ≠ 32 := by simpa using e
      rw [if_neg e32] at hrest
      refine Sx.if_ (J := fun ρ' μ' => ∃ g', (g'.Ok (i + 1) ∧ wsGo (l.drop (i + 1)) g' = fin) ∧ SubE (goR x dA l g') ρ' ∧ SubE [(Str.ofString "count", g'.cnt.map D.int)] μ') (c := S [c] == S [9]) (Tx.cmp (Ex.name rfl) (Ex.name rfl) Cmp.eqStr) (fun e => ?_) (fun e => ?_) (fun _ _ h => Sx.nil h)
      · rw [S_beq] at e
        have e9 : c = 9 := by simpa using e
        rw [if_pos e9] at hrest
        have clen : Clv C k (.builtin "len") [.list (g.cnt.map D.int)] (.int g.cnt.length) := by
          have := Clv.lenList (C := C) (k := k) (xs := g.cnt.map D.int) (by simp; lia)
          rwa [List.length_map] at this
        refine Sx.assign (Ex.bin (Ex.name rfl) Ex.int Bin.add) ?_
        refine Sx.assign (Ex.bin (Ex.name rfl) Ex.int Bin.add) ?_
        refine Sx.if_ (J := fun ρ' μ' => SubE (goR x dA l ⟨g.cnt, g.b, g.n + 1, g.nt + 1⟩) ρ' ∧ SubE [(Str.ofString "count", (pad g.cnt g.b).map D.int)] μ') (c := decide ((g.cnt.length : Int) ≤ g.b)) (Tx.cmp (Ex.name rfl) (Ex.callB (Vx.builtin rfl H.tp.tp.len.1 H.tp.tp.len.2) (EwL.cons (Ew.mut rfl) EwL.nil) clen) Cmp.ge) (fun e => ?_) (fun e => ?_) ?_
        · have hle : g.cnt.length ≤ g.b := by have := of_decide_eq_true e; lia
          refine Sx.assignF (Fx.add (Ew.mut rfl) (Ew.of (Fx.mul (Ew.of (Ex.list (ExL.cons Ex.int ExL.nil))) (Ex.bin (Ex.bin (Ex.name rfl) (Ex.callB (Vx.builtin rfl H.tp.tp.len.1 H.tp.tp.len.2) (EwL.cons (Ew.mut rfl) EwL.nil) clen) Bin.sub) Ex.int Bin.add) trivial (by lia) (by lia)).ex) (flat_ints _) (fun d hd => by rw [List.eq_of_mem_replicate hd]; trivial) (by simp [sizeLine]; lia)) ?_
          refine Sx.nil ⟨SubE.cons rfl (SubE.cons rfl (SubE.cons rfl (SubE.cons rfl (SubE.cons rfl (SubE.cons rfl SubE.nil))))), SubE.cons ?_ SubE.nil⟩
          unfold pad
          rw [if_pos hle]
          simp only [List.lookup_cons, beq_self_eq_true, Option.some.injEq, List.map_append, List.map_replicate]
          rw [show ((g.b : Int) - g.cnt.length + 1).toNat = g.b - g.cnt.length + 1 by lia]
        · have hle : ¬ g.cnt.length ≤ g.b := by have := of_decide_eq_false e; lia
          refine Sx.nil ⟨SubE.cons rfl (SubE.cons rfl (SubE.cons rfl (SubE.cons rfl (SubE.cons rfl (SubE.cons rfl SubE.nil))))), SubE.cons ?_ SubE.nil⟩
          unfold pad
          rw [if_neg hle]
          rfl
        · rintro ρ' μ' ⟨hρ, hμ⟩
          refine Sx.weaken ?_ hρ hμ
          have hpl : g.b < (pad g.cnt g.b).length := by
            unfold pad
            split
            · simp; lia
            · lia
          have hpm : (pad g.cnt g.b).length ≤ 1000 := by
            unfold pad
            split
            · simp; lia
            · lia
          have hit : ((pad g.cnt g.b).map D.int)[((g.b : Nat) : Int).toNat]? = some (.int ((pad g.cnt g.b)[g.b]?.getD 0)) := by
            rw [Int.toNat_natCast, List.getElem?_map, List.getElem?_eq_getElem hpl]; rfl
          refine Sx.setitem (d := .int ((pad g.cnt g.b)[g.b]?.getD 0 + 1)) rfl (flat_ints _) rfl (Ex.bin (Ex.ofFlat (Ew.sub (Ew.mut rfl) (Ew.of (Ex.name rfl)) (Get.list (i := (g.b : Int)) (by lia) (by lia) hit)) trivial) Ex.int Bin.add) trivial (Ex.name rfl) (i := (g.b : Int)) (by lia) (by simp; lia) (by simp [sizeLine]; lia) ?_
          rw [Int.toNat_natCast, ← List.map_set]
          refine Sx.assign Ex.int ?_
          exact Sx.nil ⟨⟨bump g.cnt g.b, 0, g.n + 1, g.nt + 1⟩, ⟨hst.2, hrest⟩, SubE.cons rfl (SubE.cons rfl (SubE.cons rfl (SubE.cons rfl (SubE.cons rfl (SubE.cons rfl SubE.nil))))), SubE.cons rfl SubE.nil⟩
      · rw [S_beq] at e
        have e9 : c ≠ 9 := by simpa using e
        rw [if_neg e9] at hrest
        subst hrest
        exact Sx.brk ⟨SubE.cons rfl (SubE.cons rfl (SubE.cons rfl (SubE.cons rfl (SubE.cons rfl (SubE.cons rfl SubE.nil))))), SubE.cons rfl SubE.nil⟩
  · rintro g ⟨hg, hrest⟩
    have hl' : (signsD (S l)).length = l.length := by simp [signsD, S]
    rw [hl', List.drop_length] at hrest
    have e : g = wsGo l ⟨[], 0, 0, 0⟩ := hrest
    subst e
    exact Sx.nil ⟨SubE.cons rfl (SubE.cons rfl (SubE.cons rfl (SubE.cons rfl SubE.nil))), SubE.cons rfl SubE.nil⟩
  · rintro ρ' μ' ⟨hρ, hμ⟩
    refine Sx.weaken (Sx.nil ⟨SubE.cons rfl (SubE.cons rfl (SubE.cons rfl (SubE.cons rfl SubE.nil))), SubE.cons rfl SubE.nil⟩) hρ hμ
end Mine
end

/-! W8 -/
section
namespace Mine
variable {C : Cx} {N : List (Str × NameKind)} {ρ ρ' : List (Str × D)} {μ μ' : List (Str × List D)} {k : Nat} {Q : Post} {ss : List Stmt} {mN : Str → Option Value}

structure Tp8 (C : Cx) (mN : Str → Option Value) : Prop where
  tp : Tp7 C mN
  fn : Fn C 38 [Str.ofString "self", Str.ofString "ws"] (mNm 1) (mB 1)
  makes : makesIn C.K wsC = true
  find : findIn C.K (.ref wsC) "__init__" = some (some (.ref 38))
  typ : typeIn C.K (.ref 38) = some (.type "function")
  tuple : C.G (Str.ofString "tuple") = none ∧ C.B (Str.ofString "tuple") = some (.type "tuple")
noncomputable def shell (dA : Addr) : Obj := { cls := .ref wsC, dict := some dA, data := .plain }
noncomputable def upd (m : Str → Option Value) (name : Str) (v : Value) : Str → Option Value := fun y => if y = name then some v else m y
noncomputable def OnlyWs (m : Str → Option Value) : Prop := ∀ y, wsHas y = false → m y = none
theorem OnlyWs.upd {m : Str → Option Value} {name : Str} {v : Value} (h : OnlyWs m) (hn : wsHas name = true) : OnlyWs (upd m name v) := fun y hy => by
  unfold Mine.upd
  rw [if_neg (fun e => by rw [e, hn] at hy; cases hy)]; exact h y hy
theorem OnlyWs.within {m : Str → Option Value} (h : OnlyWs m) : Within m [Str.ofString "raw", Str.ofString "n", Str.ofString "nt", Str.ofString "norm", Str.ofString "is_simple"] := fun y hy => by
  cases e : wsHas y with
  | false => exact absurd (h y e) hy
  | true => exact List.contains_iff_mem.mp e
/-- a name of an object of the class is stored -/
theorem set_attr (X : ClsOk C mN) {A : Around} {s : Shared} {x dA : Addr} {m : Str → Option Value} {name : Str} {v : Value} {Q : Unit → Shared → Prop} (hb : C.K.In s.heap) (hx : s.heap.get? x = some (shell dA)) (hne : dA ≠ x) (hm : s.heap.Ns1 dA m) (ho : OnlyWs m) (hn : mN name = none) (hB : typeLookup (.type "object") name = pure none)
    (hQ : ∀ h' tk', h'.Ns1 dA (upd m name v) → (∀ b o, b ≠ dA → s.heap.get? b = some o → h'.get? b = some o) → Q () { s with heap := h', toks := tk' }) : wpAny C.M A (setAttr (.ref x) name v) Q nox s := by
  have Z := X.1 _ hb
  obtain ⟨nm, q, bs, sn, sub, col, dd, k0, k1, k2, k3, k5, hC⟩ := Z.obj
  obtain ⟨hh, g, d, t, os⟩ := s
  have hxC : x ≠ wsC := fun e => by subst e; rw [hC] at hx; cases hx
  refine store_attr (prog := C.prog) (w := C.w) F.store_object hC Z.ns X.2.2.2 hn hB hxC ⟨_, hx, rfl, (fun c e => nomatch e), .inr ⟨dA, rfl, hne, hm⟩⟩ (fun h' tk' I' hk hx' => ?_) ho.within (by decide)
  obtain ⟨o₁, e1, e2, e3, e4, e5⟩ := hx' _ hx
  have eo : o₁ = shell dA := by
    obtain ⟨c, dd', dt, sl⟩ := o₁
    have := e5 dA rfl
    simp only at e2 e3 e4 this
    subst e2 e3 e4 this
    rfl
  subst eo
  obtain ⟨o, i1, i2, i3, i4⟩ := I'
  rw [e1] at i1
  cases i1
  rcases i4 with ⟨i4, _⟩ | ⟨dx, i4, _, i5⟩
  · cases i4
  · cases i4
    refine hQ h' tk' i5 fun b o hb e => ?_
    by_cases hbx : b = x
    · subst hbx
      have : (some (shell dA)) = some o := hx.symm.trans e
      cases this
      exact e1
    · exact hk b o hbx (fun o₀ dx h1 h2 => by
        have : (some (shell dA)) = some o₀ := hx.symm.trans h1
        cases this
        cases h2; exact hb) e
theorem execs_app {M : Model} {A : Around} {env : Env} {E : Value → Shared → Prop} {Q : Flow → Shared → Prop} (r : List Stmt) : ∀ (l : List Stmt) (s : Shared), wpAny M A (execs l env) (fun f s' => match f with | .next => wpAny M A (execs r env) Q E s' | f => Q f s') E s → wpAny M A (execs (l ++ r) env) Q E s := by
  intro l s h Γ p hΓ
  have key : ∀ (l : List Stmt) (p : Pos) (s : Shared), Sem.wp M Γ (execs l env) (fun f p' s' => match f with | .next => wpAny M A (execs r env) Q E s' | f => Q f s') (fun e _ s' => E e s') p s → Sem.wp M Γ (execs (l ++ r) env) (fun f _ s' => Q f s') (fun e _ s' => E e s') p s := by
    intro l
    induction l with
    | nil => intro p s h; rw [execs_nil, Sem.wp_pure'] at h; exact h Γ p hΓ
    | cons a l ih =>
      intro p s h
      rw [List.cons_append, execs_cons, Sem.wp_bind']
      rw [execs_cons, Sem.wp_bind'] at h
      refine Sem.wp_mono _ _ _ (fun f p' s' h' => ?_) (fun _ _ _ e => e) p s h
      cases f with
      | next => exact ih p' s' h'
      | cont => simp only [Sem.wp_pure'] at h' ⊢; exact h'
      | brk => simp only [Sem.wp_pure'] at h' ⊢; exact h'
      | ret v => simp only [Sem.wp_pure'] at h' ⊢; exact h'
  exact key l p s (h Γ p hΓ)
/-- the frame while the object's names are stored -/
structure Mk (C : Cx) (ρ : List (Str × D)) (μ : List (Str × List D)) (env : Env) (s₀ : Shared) (ow : Ow) (x dA : Addr) (m : Str → Option Value) (s : Shared) : Prop where
  fm : Fm C (mNm 1) ρ μ env s₀ ow s
  flat : ∀ y d, ρ.lookup y = some d → Flat d
  lab : ow dA = some .it
  slf : Holds env s.heap (Str.ofString "self") (.ref x)
  shl : s.heap.get? x = some (shell dA)
  ne : dA ≠ x
  ns : s.heap.Ns1 dA m
  only : OnlyWs m
section
variable {env : Env} {s₀ s s' : Shared} {ow : Ow} {x dA : Addr} {m : Str → Option Value}
theorem Mk.grow (K : Mk C ρ μ env s₀ ow x dA m s) (y : Ks s s') : Mk C ρ μ env s₀ ow x dA m s' :=
  ⟨K.fm.grow y, K.flat, K.lab, K.slf.keeps y.keep, y.keep _ _ K.shl, K.ne, K.ns.keeps y.keep, K.only⟩
theorem Mk.stored (K : Mk C ρ μ env s₀ ow x dA m s) (hd : s₀.heap.get? dA = none) {h' : Heap} {tk : Nat} {m' : Str → Option Value} (hm : h'.Ns1 dA m') (ho : OnlyWs m') (kp : ∀ b o, b ≠ dA → s.heap.get? b = some o → h'.get? b = some o) : Mk C ρ μ env s₀ ow x dA m' { s with heap := h', toks := tk } := by
  have labne : ∀ b l, ow b = l → l ≠ some .it → b ≠ dA := fun b l e q r => q (by rw [← e, r]; exact K.lab)
  have F' := K.fm.relab (ow' := ow) (s' := { s with heap := h', toks := tk }) ⟨h', tk, rfl⟩ (fun b o h _ e => kp b o (fun r => h (r ▸ K.lab)) e) (fun b l e _ => e) (fun a ha => K.fm.new a (by
      cases q : s.heap.get? a with
      | none => rfl
      | some o =>
        by_cases hb : a = dA
        · subst hb
          obtain ⟨o', _, _, e, _⟩ := hm
          rw [show h'.get? a = none from ha] at e; cases e
        · have := kp a o hb q
          rw [show h'.get? a = none from ha] at this; cases this)) K.fm.old (fun z d e => by
      obtain ⟨v, h1, h2⟩ := K.fm.imm z d e
      exact ⟨v, h1, h2.flat (K.flat z d e)⟩) (fun b o e => kp b o (fun q => by rw [q, hd] at e; cases e) (K.fm.ks.keep b o e))
  refine ⟨F', K.flat, K.lab, ?_, kp x _ (fun e => K.ne e.symm) K.shl, K.ne, hm, ho⟩
  rcases K.slf with ⟨e, m', n', hm'⟩ | ⟨e, c, hc, ⟨o, ho, hi⟩⟩
  · exact .inl ⟨e, m', Ns.onto n' fun o e => kp _ o (labne _ _ K.fm.frl (fun q => by cases q)) e, hm'⟩
  · exact .inr ⟨e, c, hc, ⟨o, kp _ o (labne _ _ (K.fm.frc _ c hc) (fun q => by cases q)) ho, hi⟩⟩
/-- self.name = e -/
theorem Mk.assign (K : Mk C ρ μ env s₀ ow x dA m s) (X : ClsOk C mN) (hd : s₀.heap.get? dA = none) {A : Around} (R : Rm k A) {name : Str} {px pa pos : Pos} {e : Expr} {Q : Flow → Shared → Prop} (hn : mN name = none) (hB : typeLookup (.type "object") name = pure none) (hw : wsHas name = true)
    (he : wpAny C.M A (eval e env) (fun v s' => Ks s s' ∧ ∀ h' tk' , Mk C ρ μ env s₀ ow x dA (upd m name v) { s' with heap := h', toks := tk' } → (∀ b o, b ≠ dA → s'.heap.get? b = some o → h'.get? b = some o) → Q .next { s' with heap := h', toks := tk' }) nox s)
    (hs : ∀ env, EnvOk (mNm 1) env → swapsWith e (some (.Attribute (.Name (Str.ofString "self") px) name pa)) pos.line env = pure false) : wpAny C.M A (exec (.Assign [.Attribute (.Name (Str.ofString "self") px) name pa] e pos) env) Q nox s := by
  refine plainObj_wpAny_Assign_Attribute (wpAny_mono he (fun v s₁ y => ?_) fun _ _ e => e) (hs env K.fm.eok)
  have K₁ := K.grow y.1
  refine wpAny_Name (load_holds (h := s₁.heap) K.fm.eok.kind K₁.slf (by decide) ?_) (by decide)
  refine set_attr X (K.fm.base.keeps K₁.fm.ks.keep) K₁.shl K₁.ne K₁.ns K₁.only hn hB fun h' tk' h1 h2 => ?_
  exact y.2 h' tk' (K₁.stored hd h1 (K₁.only.upd hw) h2) h2
end
end Mine
end

/-! W9 -/
section
namespace Mine
variable {C : Cx} {N : List (Str × NameKind)} {ρ ρ' : List (Str × D)} {μ μ' : List (Str × List D)} {k : Nat} {Q : Post} {ss : List Stmt} {mN : Str → Option Value}
theorem nocell_init : ∀ x ∈ mNm 1, x.2 ≠ .cell := by decide
theorem cellsFrom_none : ∀ (names : List (Str × NameKind)) (j : Nat), (∀ x ∈ names, x.2 ≠ .cell) → cellsFrom j names [] = []
  | [], _, _ => rfl
  | (n, kk) :: r, j, h => by
    unfold cellsFrom
    have : (kk == NameKind.cell) = false := by simpa using h (n, kk) (by simp)
    simp only [this, Bool.false_eq_true, if_false]
    exact cellsFrom_none r j fun x hx => h x (by simp [hx])
noncomputable def tailB : List Stmt := (mB 1).drop 5
noncomputable def rawSt : Stmt := (mB 1)[0]?.getD (.Pass ⟨0, 0, 0, 0⟩)
theorem init_split : mB 1 = rawSt :: (midB ++ tailB) := by kernel_rfl
theorem no_locals_kind {x : Str} (h : (mNm 1).lookup x = some .local) : Slot? (mNm 1) x := .inl h
theorem Fm.give_it {env : Env} {s₀ s : Shared} {ow : Ow} {a : Addr} (F : Fm C N ρ μ env s₀ ow s) (hf : ∀ y d, ρ.lookup y = some d → Flat d) (ha : ow a = none) (h0 : s₀.heap.get? a = none) (hl : (s.heap.get? a).isSome = true) : Fm C N ρ μ env s₀ (ow.give a (some .it)) s := by
  have hne : ∀ b l, ow b = some l → b ≠ a := fun b l e q => by rw [q, ha] at e; cases e
  have hk : ∀ b l, ow b = some l → (ow.give a (some .it)) b = some l := fun b l e => by unfold Ow.give; rw [if_neg (hne b l e)]; exact e
  exact { F with
    frl := hk _ _ F.frl
    frc := fun n c e => hk _ _ (F.frc n c e)
    old := fun b o e => by unfold Ow.give; rw [if_neg (fun q => by rw [q, h0] at e; cases e)]; exact F.old b o e
    new := fun b e => by unfold Ow.give; rw [if_neg (fun q => by rw [q] at e; rw [e] at hl; cases hl)]; exact F.new b e
    imm := fun z d e => by obtain ⟨v, h1, h2⟩ := F.imm z d e; exact ⟨v, h1, h2.flat (hf z d e)⟩
    tur := fun z zs e => by obtain ⟨b, h1, h2⟩ := F.tur z zs e; exact ⟨b, h1, h2.move fun c o e1 e2 => ⟨hk _ _ e1, e2⟩⟩ }
theorem init_call (H : Tp8 C mN) {A : Around} {s₀ s₁ : Shared} {x dA : Addr} {l : List Nat} {t : Tok} {R : Result → Shared → Prop} (hl : l.length ≤ 100) (hr : Rm (k + 1) A) (same : ∃ h tk, s₁ = { s₀ with heap := h, toks := tk }) (kp : ∀ b o, s₀.heap.get? b = some o → s₁.heap.get? b = some o) (hb : C.K.In s₀.heap) (hsz : s₀.heap.objs.size ≤ s₁.heap.objs.size)
    (hx0 : s₀.heap.get? x = none) (hd0 : s₀.heap.get? dA = none) (hx : s₁.heap.get? x = some (shell dA)) (hd : s₁.heap.get? dA = some emptyDict) (hne : dA ≠ x)
    (hR : ∀ s', Ks s₀ s' → WsAt (fun a => s₀.heap.get? a = none) s'.heap (wsR l) x → R (.ok (.ret .none)) s') : codeAny C.M A (.call (.ref 38) ⟨[.ref x, .str (S l) t], []⟩) R s₁ := by
  have X := H.fn
  obtain ⟨o, fd, ho, hdat, hbody, hN, hkind, hco, hgen, hclo, hglob, hbi, hbind, hcode⟩ := X.obj
  have hb1 : C.K.In s₁.heap := hb.keeps kp
  have hvl : ([.ref x, .str (S l) t] : List Value).length = [Str.ofString "self", Str.ofString "ws"].length := rfl
  refine codeAny_call_cells (prog := C.prog) (w := C.w) (by have := hr.depth; show A.depth < 1000; lia) (hb1 38 o ho) hdat (C.tops _ hb1).2.2 (hcode _ hb1) hbody (hbind _ hvl) hclo (fun y hy => ?_) (fun s₂ Y => ?_) hco hgen hkind
  · have hp : y.1 ∈ [Str.ofString "self", Str.ofString "ws"] := by rw [← zip_fst hvl]; exact List.mem_map_of_mem hy
    rw [hN]
    rcases X.slots _ hp with q | q
    · exact .inl q
    · exact absurd rfl (nocell_init _ (mem_of_lookupK q))
  generalize hE : callEnvC fd s₁.heap.objs.size 38 = env at Y ⊢
  have e1 : env.scope.names = mNm 1 := by rw [← hE]; exact hN
  have e2 : env.locals = s₁.heap.objs.size := by rw [← hE]; rfl
  have e3 : env.cells = [] := by rw [← hE]; show cellsFrom _ fd.scope.names [] = []; rw [hN]; exact cellsFrom_none _ _ nocell_init
  have hk : ∀ x, env.kindOf x = (mNm 1).lookup x := fun x => by unfold Env.kindOf; rw [e1]
  have eok : EnvOk (mNm 1) env := ⟨e1, by rw [← hE]; exact hkind, by rw [← hE]; exact hglob, by rw [← hE]; exact hbi, fun n hn => by
    rcases hn with q | q
    · exact absurd rfl (nocell_init _ (mem_of_lookupK q))
    · exact (X.nofree n q).elim⟩
  have hself : (bindL env.kindOf ([Str.ofString "self", Str.ofString "ws"].zip [.ref x, .str (S l) t]) fun _ => none) (Str.ofString "self") = some (.ref x) := bindL_get (by rw [hk]; rfl) _ _ (by rw [zip_fst rfl]; decide) rfl
  have hws : (bindL env.kindOf ([Str.ofString "self", Str.ofString "ws"].zip [.ref x, .str (S l) t]) fun _ => none) (Str.ofString "ws") = some (.str (S l) t) := bindL_get (by rw [hk]; rfl) _ _ (by rw [zip_fst rfl]; decide) rfl
  have hr2 : Rm k (A.deeper env) := hr.deeper
  have hlt : ∀ b o, s₁.heap.get? b = some o → b ≠ env.locals := fun b o e q => by
    have := Heap.lt_size e
    rw [q, e2] at this; exact Nat.lt_irrefl _ this
  have hkind' : env.scope.kind = .function := eok.kind
  -- the first store
  suffices hmain : wpAny C.M (A.deeper env) (execs (mB 1) env) (fun f s' => R (.ok (.ret (match f with | .ret v => v | _ => .none))) s') nox s₂ from wpAny_mono hmain (fun f s' z => z) fun _ _ e => e.elim
  rw [init_split]
  refine wpAny_execs_cons ?_
  have K2 : C.K.In s₂.heap := hb1.keeps Y.toInCall.keep
  have hx2 : s₂.heap.get? x = some (shell dA) := Y.toInCall.keep _ _ hx
  have hd2 : s₂.heap.get? dA = some emptyDict := Y.toInCall.keep _ _ hd
  have n0 : s₂.heap.Ns1 dA (fun _ => none) := Heap.Ns1.of_empty ⟨_, #[], 0, hd2, rfl, fun e he => absurd he (by simp), fun _ => rfl⟩
  refine plainObj_wpAny_Assign_Attribute (wpAny_Name (load_holds (h := s₂.heap) (v := .str (S l) t) hkind' (.inl ⟨by rw [hk]; rfl, _, Y.toInCall.ns, hws⟩) (by decide) (wpAny_Name (load_holds (h := s₂.heap) (v := .ref x) hkind' (.inl ⟨by rw [hk]; rfl, _, Y.toInCall.ns, hself⟩) (by decide) ?_) (by decide))) (by decide)) (swaps_of eok rfl)
  refine set_attr H.tp.tp.cls K2 hx2 hne n0 (fun _ _ => rfl) (H.tp.tp.no _ rfl) noObj_raw fun h₃ tk₃ m₃ kp₃ => ?_
  have hdL : dA ≠ env.locals := hlt _ _ hd
  have hnc : ∀ n c, env.cells.lookup n ≠ some c := fun n c e => by rw [e3] at e; cases e
  have hnm : ∀ n c, (n, c) ∉ env.cells := fun n c e => by rw [e3] at e; cases e
  have F : Fm C (mNm 1) [(Str.ofString "self", .sh x dA (S l)), (Str.ofString "ws", .str (S l))] [] env s₀ (frOw env.locals env.cells) { s₂ with heap := h₃, toks := tk₃ } := {
    eok := eok, base := hb
    fr := ⟨_, fun _ => none, ⟨⟨by
        obtain ⟨h, tk, rfl⟩ := same
        obtain ⟨h', tk', e⟩ := Y.toInCall.same
        exact ⟨h₃, tk₃, by rw [e]⟩, Ns.onto Y.toInCall.ns fun o e => kp₃ _ o (Ne.symm hdL) e, fun b o e => kp₃ b o (fun q => by rw [q, hd0] at e; cases e) (Y.toInCall.keep b o (kp b o e)), by rw [e2]; exact hsz⟩, fun n c e => absurd e (hnc n c), by rw [e3]; exact List.Pairwise.nil, fun n c e => absurd e (hnm n c)⟩⟩
    frl := by unfold frOw; rw [if_pos (.inl rfl)]
    frc := fun n c e => absurd e (hnc n c)
    nofree := X.nofree
    old := fun b o e => by
      unfold frOw
      rw [if_neg]
      rintro (q | ⟨n, q⟩)
      · exact hlt b o (kp b o e) q
      · rw [e3] at q; cases q
    new := fun b e => by
      unfold frOw
      rw [if_neg]
      rintro (q | ⟨n, q⟩)
      · obtain ⟨o, _, _, e', _⟩ := Y.toInCall.ns
        have := kp₃ _ o (Ne.symm hdL) e'
        rw [← q, show h₃.get? b = none from e] at this; cases this
      · rw [e3] at q; cases q
    imm := fun y d e => by
      have loc : ∀ v, (bindL env.kindOf ([Str.ofString "self", Str.ofString "ws"].zip [.ref x, .str (S l) t]) fun _ => none) y = some v → (mNm 1).lookup y = some .local → Holds env h₃ y v := fun v hv hy => .inl ⟨by rw [hk]; exact hy, _, Ns.onto Y.toInCall.ns fun o e => kp₃ _ o (Ne.symm hdL) e, hv⟩
      have frNone : ∀ b o, s₁.heap.get? b = some o → frOw env.locals env.cells b = none := fun b o e => by
        unfold frOw
        rw [if_neg]
        rintro (q | ⟨n, q⟩)
        · exact hlt b o e q
        · rw [e3] at q; cases q
      rw [List.lookup_cons] at e
      by_cases q : y = Str.ofString "self"
      · subst q
        simp only [beq_self_eq_true, Option.some.injEq] at e
        subst e
        refine ⟨_, loc _ hself rfl, ?_⟩
        simp only [Den]
        refine ⟨trivial, frNone _ _ hx, frNone _ _ hd, shell dA, _, kp₃ _ _ (Ne.symm hne) hx2, ⟨rfl, (fun c e => nomatch e), rfl, hne⟩, m₃, fun z hz => ?_, t, ?_⟩
        · unfold upd; rw [if_neg hz]
        · unfold upd; rw [if_pos rfl]
      · rw [beq_eq_false_iff_ne.mpr q, List.lookup_cons] at e
        by_cases q2 : y = Str.ofString "ws"
        · subst q2
          simp only [beq_self_eq_true, Option.some.injEq] at e
          subst e
          exact ⟨_, loc _ hws rfl, den_str⟩
        · rw [beq_eq_false_iff_ne.mpr q2] at e; cases e
    tur := fun y ys e => by cases e }
  -- the middle
  refine execs_app tailB midB _ ?_
  refine wpAny_mono (walk_mid H.tp (x := x) (dA := dA) hl env _ s₀ _ _ hr2 F) (fun f s₄ z => ?_) fun _ _ e => e.elim
  cases f with
  | brk => obtain ⟨_, _, _, e, _⟩ := z; exact e.elim
  | cont => exact z.elim
  | ret v => obtain ⟨_, e, _⟩ := z; exact e.elim
  | next =>
    obtain ⟨ρ₄, μ₄, ow₄, ⟨hρ, hμ⟩, F₄, ev⟩ := z
    have frNone : ∀ b o, s₁.heap.get? b = some o → frOw env.locals env.cells b = none := fun b o e => by
      unfold frOw
      rw [if_neg]
      rintro (q | ⟨n, q⟩)
      · exact hlt b o e q
      · exact absurd q (hnc n b)
    have hwr := wsR_ok hl
    have hlen := hwr.cnt
    have hraw : (wsR l).raw = S l := rfl
    generalize wsR l = r at hρ hμ hR hwr hlen hraw
    obtain ⟨v₄, hv1, hv2⟩ := F₄.imm (Str.ofString "self") (.sh x dA (S l)) (hρ _ _ rfl)
    simp only [Den] at hv2
    obtain ⟨rfl, ox, od, _⟩ := hv2
    have hx4 : s₄.heap.get? x = some (shell dA) := (ev x _ (.inl (frNone _ _ hx)) (kp₃ _ _ (Ne.symm hne) hx2)).2
    have m4 : s₄.heap.Ns1 dA _ := m₃.at fun o e => (ev dA _ (.inl (frNone _ _ hd)) e).2
    have hd4 : (s₄.heap.get? dA).isSome = true := by obtain ⟨o, _, _, e, _⟩ := m4; rw [e]; rfl
    have fl : ∀ y d, ([(Str.ofString "nt", D.int r.nt), (Str.ofString "n", .int r.n), (Str.ofString "b", .int r.tr)] : List (Str × D)).lookup y = some d → Flat d := fun y d e => by
      have := mem_of_lookup e
      simp only [List.mem_cons, List.not_mem_nil, or_false, Prod.mk.injEq] at this
      rcases this with ⟨_, rfl⟩ | ⟨_, rfl⟩ | ⟨_, rfl⟩ <;> trivial
    have hsub : SubE ([(Str.ofString "nt", D.int r.nt), (Str.ofString "n", .int r.n), (Str.ofString "b", .int r.tr)] : List (Str × D)) ρ₄ := SubE.cons (hρ _ _ rfl) (SubE.cons (hρ _ _ rfl) (SubE.cons (hρ _ _ rfl) SubE.nil))
    have K0 : Mk C _ _ env s₀ (ow₄.give dA (some .it)) x dA _ s₄ := ⟨(F₄.weaken hsub hμ).give_it fl od hd0 hd4, fl, give_self, hv1, hx4, hne, m4, (fun y hy => by unfold upd; rw [if_neg (fun e => by rw [e] at hy; cases hy)])⟩
    have clen : Clv C k (.builtin "len") [.list (r.cnt.map D.int)] (.int r.cnt.length) := by
      have := Clv.lenList (C := C) (k := k) (xs := r.cnt.map D.int) (by simp; lia)
      rwa [List.length_map] at this
    show wpAny C.M _ (execs tailB env) _ _ s₄
    refine wpAny_execs_cons (K0.assign H.tp.tp.cls hd0 hr2 (H.tp.tp.no _ rfl) noObj_n rfl (wpAny_mono ((Ex.name rfl : Ex C (mNm 1) _ _ k (.Name (Str.ofString "n") _) (.int r.n)) env _ _ _ (K0.fm.pre hr2)) (fun v s₅ y => ⟨y.1, fun h₅ t₅ K1 _ => ?_⟩) fun _ _ e => e) (fun env E => swaps_of E rfl))
    obtain ⟨_, tn, rfl⟩ := y
    refine wpAny_execs_cons (K1.assign H.tp.tp.cls hd0 hr2 (H.tp.tp.no _ rfl) noObj_nt rfl (wpAny_mono ((Ex.name rfl : Ex C (mNm 1) _ _ k (.Name (Str.ofString "nt") _) (.int r.nt)) env _ _ _ (K1.fm.pre hr2)) (fun v s₆ y => ⟨y.1, fun h₆ t₆ K2 _ => ?_⟩) fun _ _ e => e) (fun env E => swaps_of E rfl))
    obtain ⟨_, tnt, rfl⟩ := y
    generalize ({ s₆ with heap := h₆, toks := t₆ } : Shared) = s₇ at K2 ⊢
    have P2 := K2.fm.pre hr2
    have P2' : Pre C (mNm 1) _ _ k env (fun a => s₇.heap.get? a = none) _ s₇ := ⟨P2.eok, P2.rm, P2.base, ⟨fun y d e => let ⟨v, a, b⟩ := P2.sim.imm y d e; ⟨v, a, b.flat (fl y d e)⟩, P2.sim.tur⟩, fun a ha => ha⟩
    have exN : ∀ (p1 p2 p3 p4 p5 : Pos) (kk : Nat), Ex C (mNm 1) ([(Str.ofString "nt", D.int r.nt), (Str.ofString "n", .int r.n), (Str.ofString "b", .int r.tr)] : List (Str × D)) [(Str.ofString "count", r.cnt.map D.int)] k (.Tuple [.Call (.Name (Str.ofString "tuple") p1) [.Name (Str.ofString "count") p2] [] p3, .Name (Str.ofString "b") p4] kk p5) (.tup [.tup (r.cnt.map D.int), .int r.tr]) := fun _ _ _ _ _ _ =>
      Ex.tuple (ExL.cons (Ex.callT (Vx.builtin rfl H.tuple.1 H.tuple.2) (EwL.cons (Ew.mut rfl) EwL.nil) (Clv.tuple (flat_ints _) (by simp [sizeLine]; lia))) (ExL.cons (Ex.name rfl) ExL.nil)) (by simp [sizeLine])
    refine wpAny_execs_cons (K2.assign H.tp.tp.cls hd0 hr2 (H.tp.tp.no _ rfl) noObj_norm rfl (wpAny_mono (exN _ _ _ _ _ _ env _ _ _ P2') (fun v s₈ y => ⟨y.1, fun h₈ t₈ K3 kp8 => ?_⟩) fun _ _ e => e) (fun env E => swaps_of E rfl))
    obtain ⟨y1, y2⟩ := y
    simp only [Den, DenL] at y2
    obtain ⟨pp, its, rfl, hp, tp1, _, _, hits, ⟨qq, its2, rfl, hq, tp2, den2⟩, _, _, rfl, ⟨tb, rfl⟩, rfl⟩ := y2
    have hits' : its = #[.ref qq, .int r.tr tb] := by cases its; simpa using hits
    subst hits'
    have hda7 : (s₇.heap.get? dA).isSome = true := by obtain ⟨o, _, _, e, _⟩ := K2.ns; rw [e]; rfl
    have pne : pp ≠ dA := fun e => by rw [e] at hp; rw [hp] at hda7; cases hda7
    have qne : qq ≠ dA := fun e => by rw [e] at hq; rw [hq] at hda7; cases hda7
    have tp1' : h₈.IsTuple pp #[.ref qq, .int r.tr tb] := tp1.at fun o e => kp8 _ o pne e
    have tp2' : h₈.IsTuple qq its2 := tp2.at fun o e => kp8 _ o qne e
    have fr7 : ∀ a, s₇.heap.get? a = none → s₀.heap.get? a = none := fun a h => none_keep K2.fm.ks.keep h
    have exS : ∀ (p1 p2 p3 p4 p5 : Pos) (kk : Nat), Ex C (mNm 1) ([(Str.ofString "nt", D.int r.nt), (Str.ofString "n", .int r.n), (Str.ofString "b", .int r.tr)] : List (Str × D)) [(Str.ofString "count", r.cnt.map D.int)] k (.Compare (.Call (.Name (Str.ofString "len") p1) [.Name (Str.ofString "count") p2] [] p3) [.LtE] [.Constant (.int 1) kk p4] p5) (.bool (decide ((r.cnt.length : Int) ≤ 1))) := fun _ _ _ _ _ _ =>
      Ex.cmp (Ex.callB (Vx.builtin rfl H.tp.tp.tp.len.1 H.tp.tp.tp.len.2) (EwL.cons (Ew.mut rfl) EwL.nil) clen) Ex.int Cmp.le
    refine wpAny_execs_cons (K3.assign H.tp.tp.cls hd0 hr2 (H.tp.tp.no _ rfl) noObj_simple rfl (wpAny_mono (exS _ _ _ _ _ _ env _ _ _ (K3.fm.pre hr2)) (fun v s₉ y => ⟨y.1, fun h₉ t₉ K4 kp9 => ?_⟩) fun _ _ e => e) (fun env E => swaps_of E rfl))
    obtain ⟨y3, y4⟩ := y
    simp only [Den] at y4
    subst y4
    refine wpAny_execs_nil (hR _ K4.fm.ks ⟨dA, _, shell dA, hx0, hd0, K4.shl, ⟨rfl, (fun c e => nomatch e), rfl, hne⟩, K4.ns, K4.only, ⟨t, ?_⟩, ⟨tn, ?_⟩, ⟨tnt, ?_⟩, ⟨decide ((r.cnt.length : Int) ≤ 1), ?_, ?_⟩, pp, qq, its2, tb, fr7 _ hp, fr7 _ hq, ?_, tp1'.at fun o e => kp9 _ o pne (y3.keep _ _ e), tp2'.at fun o e => kp9 _ o qne (y3.keep _ _ e), den_intsV den2⟩)
    · rw [hraw]; rfl
    · rfl
    · rfl
    · rfl
    · congr 1; simp only [eq_iff_iff]; lia
    · rfl
theorem under_make (A : Around) (vals : List Value) : (A.under (.builtin "type.__call__" ⟨.ref wsC :: vals, []⟩)).depth = A.depth + 1 ∧ (A.under (.builtin "type.__call__" ⟨.ref wsC :: vals, []⟩)).handled = A.handled ∧ (A.under (.builtin "type.__call__" ⟨.ref wsC :: vals, []⟩)).units ≤ A.units + 20 := by
  refine ⟨rfl, rfl, ?_⟩
  show A.units + (1 + 3 * (Code.builtin "type.__call__" ⟨.ref wsC :: vals, []⟩).frames) ≤ A.units + 20
  have : (Code.builtin "type.__call__" ⟨.ref wsC :: vals, []⟩).frames ≤ 1 := Nat.le_of_ble_eq_true rfl
  lia
theorem call_ws (H : Tp8 C mN) {l : List Nat} (hl : l.length ≤ 100) : Clv C (k + 2) (.ref wsC) [.str (S l)] (.ws (wsR l)) := by
  intro ok A s vs hr hb hn hv
  obtain ⟨v, rfl, t, rfl⟩ := den1 hv
  refine wpAny_call ?_
  obtain ⟨u1, u2, u3⟩ := under_make A [.str (S l) t]
  have hr' : Rm (k + 1) (A.under (.builtin "type.__call__" ⟨.ref wsC :: [.str (S l) t], []⟩)) := ⟨u2.trans hr.hand, by have := hr.depth; rw [u1]; lia, by have := hr.units; lia⟩
  obtain ⟨hh, g, d, tk, os⟩ := s
  have e0 : ∀ b o, hh.get? b = some o → ((hh.push emptyDict).push (instObj wsC hh.objs.size)).get? b = some o := fun b o e => Heap.get?_push_of_some _ (Heap.get?_push_of_some _ e)
  have n1 : hh.get? (hh.objs.size + 1) = none := by
    cases e : hh.get? (hh.objs.size + 1) with
    | none => rfl
    | some o => exact absurd (Heap.lt_size e) (Nat.not_lt.mpr (Nat.le_succ _))
  refine make_core (prog := C.prog) (w := C.w) (makes_of hb H.makes) (looks_findIn hb H.find) (fun self => bind_fn hb self H.typ) (.inl rfl) ?_
  refine init_call (k := k) H (s₀ := ⟨hh, g, d, tk, os⟩) (dA := hh.objs.size) hl hr' ⟨_, tk, rfl⟩ e0 hb ?_ n1 (get_size _) ?_ ?_ (Nat.ne_of_lt (Nat.lt_succ_self _)) fun s' ks hw => ?_
  · show hh.objs.size ≤ ((hh.push emptyDict).push (instObj wsC hh.objs.size)).objs.size
    rw [Heap.size_push, Heap.size_push]; lia
  · have := Heap.get?_push_size (hh.push emptyDict) (o := instObj wsC hh.objs.size) rfl
    rw [Heap.size_push] at this
    exact this
  · exact Heap.get?_push_of_some _ (Heap.get?_push_size _ rfl)
  · refine ⟨rfl, ks, ?_⟩
    simp only [Den]
    exact ⟨_, rfl, hw.okMono fun a ha _ => hn a ha⟩
theorem Ex.callCls (H : Tp8 C mN) {f e : Expr} {pos : Pos} {l : List Nat} (hf : Vx C N ρ μ (k + 2) f (.ref wsC)) (he : Ew C N ρ μ (k + 2) e (.str (S l))) (hl : l.length ≤ 100)
    (hn : ∀ env, eval (.Call f [e] [] pos) env = (do callWith pos (← eval f env) [] (backTo pos (starEach [e] env)) (backToKw pos (keywordEach [] env))) := by intro _; rfl)
    (hs : ∀ env, starEach [e] env = (false, eval e env) :: starEach [] env := by intro _; rfl) : Ex C N ρ μ (k + 2) (.Call f [e] [] pos) (.ws (wsR l)) := by
  intro env ok A s P
  rw [hn env]
  refine wpAny_bind (wpAny_mono (hf env ok A s P) (fun v s₁ x => ?_) fun _ _ e => e)
  obtain ⟨x, rfl⟩ := x
  have ha := EwL.cons he EwL.nil hs
  refine callWith_cls (prog := C.prog) (w := C.w) (H.tp.tp.cls.1 _ (P.keeps x).base) (wpAny_mono (ha.2 pos env ok A s₁ (P.keeps x)) (fun vs s₂ y => ⟨y.1.keep, ?_⟩) fun _ _ e => e) (hs env)
  have P₂ := (P.keeps x).keeps y.1
  exact wpAny_mono (call_ws H hl ok A s₂ vs P₂.rm P₂.base P₂.new y.2) (fun r s₃ z => ⟨(x.trans y.1).trans z.1, z.2⟩) fun _ _ e => e
end Mine
end

/-! Calc21 -/
section
namespace Mine
variable {C : Cx} {N : List (Str × NameKind)} {ρ ρ' : List (Str × D)} {μ μ' : List (Str × List D)} {k : Nat}

theorem comp_closed {env : Env} {ok : Addr → Prop} {A : Around} {s s₂ : Shared} (P : Pre C N ρ μ k env ok A s) {scope : Scope} (S : ScopeOk N scope) {e : Expr} {it : Value} {RR : Value → Addr → Result → Shared → Prop}
    (h : ∀ Da L cenv s₄, Ks s₂ s₄ → s₂.heap.get? Da = none → s₂.heap.get? L = none → Da ≠ L → EnvOk (relN scope.names N) cenv → cenv.locals = L → s₄.heap.PlainList Da #[] → s₄.heap.Ns L (fun _ => none) → codeAny C.M A (.compStart e 0 it (.ref Da) cenv) (RR (.ref Da) L) s₄) :
    wpAny C.M A (newList []) (fun acc s₃ => wpAny C.M A (newFunctionEnv scope env.globals (closOf env scope.names []) [] env.qual none .none (some env)) (fun cenv s₄ => codeAny C.M A (.compStart e 0 it acc { cenv with scope := relabel scope env }) (RR acc cenv.locals) s₄) nox s₃) nox s₂ := by
  refine wpAny_newObj_type (newEnv_comp ?_)
  dsimp only
  generalize hH3 : s₂.heap.push { cls := .type "list", dict := none, data := .seq ([] : List Value).toArray } = H3
  have hL : H3.objs.size = s₂.heap.objs.size + 1 := by rw [← hH3, Heap.size_push]
  generalize hH4 : H3.push { cls := .type "dict", data := .dict #[] } = H4
  have h4 : H4.objs.size = H3.objs.size + 1 := by rw [← hH4, Heap.size_push]
  have K4 : Keep s₂.heap (pushCells H4 scope.names) := fun b o e => pushCells_keeps _ _ _ _ (hH4 ▸ Heap.get?_push_of_some _ (hH3 ▸ Heap.get?_push_of_some _ e))
  have hDa : (pushCells H4 scope.names).PlainList s₂.heap.objs.size #[] := ⟨0, pushCells_keeps _ _ _ _ (hH4 ▸ Heap.get?_push_of_some _ (hH3 ▸ Heap.get?_push_size _ rfl))⟩
  have hNs : (pushCells H4 scope.names).Ns H3.objs.size fun _ => none := (hH4 ▸ Heap.Ns.new H3 (.type "dict")).keeps (pushCells_keeps _ _)
  have fresh : ∀ a, s₂.heap.objs.size ≤ a → s₂.heap.get? a = none := fun a ha => by
    cases e : s₂.heap.get? a with
    | none => rfl
    | some o => exact absurd (Heap.lt_size e) (Nat.not_lt.mpr ha)
  have hDL : s₂.heap.objs.size ≠ H3.objs.size := by rw [hL]; exact Nat.ne_of_lt (Nat.lt_succ_self _)
  have hLe : s₂.heap.objs.size ≤ H3.objs.size := by rw [hL]; exact Nat.le_succ _
  have eqc : H3.objs.size + 1 = H4.objs.size := h4.symm
  rw [eqc]
  exact h _ _ _ { s₂ with heap := pushCells H4 scope.names } ⟨_, s₂.toks, rfl, K4⟩ (fresh _ (Nat.le_refl _)) (fresh _ hLe) hDL (cenv_ok P.eok S) rfl hDa hNs

theorem callT_any {f e : Expr} {es : List Expr} {pos : Pos} {id : String} {ds : List D} (hf : Vx C N ρ μ k f (.type id)) (ha : EwL C N ρ μ k (e :: es) ds) {env : Env} {ok : Addr → Prop} {A : Around} {s : Shared} (P : Pre C N ρ μ k env ok A s) {Q : Value → Shared → Prop}
    (hc : ∀ s₂ vs, Ks s s₂ → DenL T s₂.heap ds vs → wpAny C.M A (call (.type id) vs) Q nox s₂)
    (hn : ∀ env, eval (.Call f (e :: es) [] pos) env = (do callWith pos (← eval f env) [] (backTo pos (starEach (e :: es) env)) (backToKw pos (keywordEach [] env))) := by intro _; rfl)
    (he : ∀ env, starEach (e :: es) env = (false, eval e env) :: starEach es env := by intro _; rfl) : wpAny C.M A (eval (.Call f (e :: es) [] pos) env) Q nox s := by
  rw [hn env]
  refine wpAny_bind (wpAny_mono (hf env ok A s P) (fun v s₁ x => ?_) fun _ _ e => e)
  obtain ⟨x, rfl⟩ := x
  have hp := ha.1 env pos
  rw [he env] at hp
  exact callWith_type1 (wpAny_mono (ha.2 pos env ok A s₁ (P.keeps x)) (fun vs s₂ y => hc s₂ vs (x.trans y.1) y.2) fun _ _ e => e) (he env) (by simpa [backTo] using hp)

/-! a comprehension over pairs -/
section
variable {prog : Program} {w : World} {A : Around} {s : Shared}
theorem loop_pair {elt iter : Expr} {elts : List Expr} {x1} {tp : Pos} {ifs : List Expr} {scope : Scope} {pos : Pos} {it acc : Value} {env : Env} {R : Result → Shared → Prop} (I : Nat → Shared → Prop)
    (turn : ∀ n s, I n s → wpAny (model prog w) A (pyNext it) (fun r s₁ => match r with
      | none => R (.ok .next) s₁
      | some v => wpAny (model prog w) A (letOwnedTupleGo (.Tuple elts x1 tp) it v) (fun _ s₁' => wpAny (model prog w) A (assign (.Tuple elts x1 tp) env v) (fun _ s₂ =>
          wpAny (model prog w) A (forIn ifs true fun c r => if r = true then do let ok ← isTrue c env (eval c env); pure (ForInStep.yield ok) else pure (ForInStep.yield r)) (fun ok s₃ =>
            if ok = true then wpAny (model prog w) A (eval elt env) (fun x s₄ => wpAny (model prog w) A (call (.builtin "list.append") [acc, x]) (fun _ s₅ => ∃ m, m < n ∧ I m s₅) nox s₄) nox s₃
            else ∃ m, m < n ∧ I m s₃) nox s₂) nox s₁') nox s₁) nox s)
    (n : Nat) (h : I n s) : codeAny (model prog w) A (.compLoop (.ListComp elt [⟨.Tuple elts x1 tp, iter, ifs, 0⟩] scope pos) 0 it acc env) R s := by
  refine codeAny_loop rfl I (fun n s hI => ?_) n h
  show wpAny _ A ((compTurn (.ListComp elt [⟨.Tuple elts x1 tp, iter, ifs, 0⟩] scope pos) 0 it acc env).onRaise (fun x => do noteFrame x env; theTreesLotGoes x)) _ _ s
  refine wpAny_noted ?_
  rw [compTurn_list]
  refine wpAny_bind (wpAny_standAt (wpAny_bind (wpAny_mono (turn n s hI) (fun r s₁ h₁ => ?_) fun _ _ h' => h'.elim)))
  cases r with
  | none => exact wpAny_pure h₁
  | some v =>
    refine wpAny_bind (wpAny_mono h₁ (fun _ s₁' h₁' => ?_) fun _ _ h' => h'.elim)
    refine wpAny_bind (wpAny_mono h₁' (fun _ s₂ h₂ => wpAny_bind (wpAny_mono h₂ (fun ok s₃ h₃ => ?_) fun _ _ h' => h'.elim)) fun _ _ h' => h'.elim)
    cases ok with
    | false => exact wpAny_pure ⟨rfl, h₃⟩
    | true => exact wpAny_bind (wpAny_bind (wpAny_mono h₃ (fun x s₄ h₄ => wpAny_bind (wpAny_mono h₄ (fun _ s₅ h₅ => wpAny_pure (wpAny_pure ⟨rfl, h₅⟩)) fun _ _ h' => h'.elim)) fun _ _ h' => h'.elim))
end
end Mine
end

/-! Calc22 -/
section
namespace Mine
variable {C : Cx} {N : List (Str × NameKind)} {ρ ρ' : List (Str × D)} {μ μ' : List (Str × List D)} {k : Nat}
theorem zip_at {xs ys : List Int} {i : Nat} (h : i < min xs.length ys.length) : (xs.zip ys)[i]? = some (xs[i]?.getD 0, ys[i]?.getD 0) := by
  rw [List.getElem?_zip_eq_some]
  have h1 : i < xs.length := by lia
  have h2 : i < ys.length := by lia
  simp [h1, h2]
theorem Ex.compZip {scope : Scope} {c d : Str} {pc pd tp zp pos : Pos} {kk : Nat} {elt f e1 e2 : Expr} {ifs : List Expr} {xs ys : List Int} (p : Int → Int → Bool) (g : Int → Int → Int) (hf : Vx C N ρ μ k f (.type "zip")) (h1 : Ew C N ρ μ k e1 (.list (xs.map D.int))) (h2 : Ew C N ρ μ k e2 (.list (ys.map D.int)))
    (ht : ∀ x y, Ts C (relN scope.names N) [(d, .int y), (c, .int x)] [] k ifs (p x y)) (he : ∀ x y, Ex C (relN scope.names N) [(d, .int y), (c, .int x)] [] k elt (.int (g x y)))
    (hsz : xs.length ≤ sizeLine) (hcd : c ≠ d) (hS : scopeOkB N scope = true := by rfl) (hc : scope.names.lookup c = some .local := by rfl) (hd : scope.names.lookup d = some .local := by rfl)
    (plain : ∀ env x, foldedSetIterable (.Call f [e1, e2] [] zp) env x = pure x := by intro _ _; rfl)
    (hn : ∀ env, eval (.Call f [e1, e2] [] zp) env = (do callWith zp (← eval f env) [] (backTo zp (starEach [e1, e2] env)) (backToKw zp (keywordEach [] env))) := by intro _; rfl)
    (hs1 : ∀ env, starEach [e1, e2] env = (false, eval e1 env) :: starEach [e2] env := by intro _; rfl) (hs2 : ∀ env, starEach [e2] env = (false, eval e2 env) :: starEach [] env := by intro _; rfl) :
    Ex C N ρ μ k (.ListComp elt [⟨.Tuple [.Name c pc, .Name d pd] kk tp, .Call f [e1, e2] [] zp, ifs, 0⟩] scope pos) (.list (((xs.zip ys).filter fun q => p q.1 q.2).map fun q => .int (g q.1 q.2))) := by
  intro env ok A s P
  have S := scopeOk_of hS
  rw [eval_ListComp]
  refine wpAny_comprehension_free (use := Option.none) rfl (plain env) (clos_ok P.eok S) S.kind (names_ok S) ?_
  refine callT_any hf (EwL.cons h1 (EwL.cons h2 EwL.nil hs2) hs1) P (fun s₂ vs K2 hv => ?_) hn hs1
  obtain ⟨v1, v2, rfl, d1, d2⟩ := den2 hv
  obtain ⟨l1, its1, rfl, hl1, z1⟩ := den_list d1
  obtain ⟨l2, its2, rfl, hl2, z2⟩ := den_list d2
  have n1 : xs.length = its1.size := by have := z1.length; simpa using this
  have n2 : ys.length = its2.size := by have := z2.length; simpa using this
  have a1 : l1 < s₂.heap.objs.size := by obtain ⟨_, e, _⟩ := hl1; exact Heap.lt_size e
  have a2 : l2 < s₂.heap.objs.size := by obtain ⟨_, e, _⟩ := hl2; exact Heap.lt_size e
  refine call_zip_2 hl1 hl2 fun h' hz hTI hTO hi1 hi2 hsz' hk => ?_
  have DA := zipApart_new a1 a2
  have W := (WalksT.zip2 (prog := C.prog) (w := C.w) P.rm.hand _ _ _ _ _ _ _ DA its1 its2).toU
  generalize hzz : s₂.heap.objs.size + 4 = z at hz W DA ⊢
  generalize hTIe : s₂.heap.objs.size + 2 = TI at hz hTI W DA
  generalize hTOe : s₂.heap.objs.size + 3 = TO at hz hTO W DA
  generalize hi2e : s₂.heap.objs.size + 1 = i2 at hTI hi2 W DA
  have wrNew : ∀ b ∈ [z, TO, s₂.heap.objs.size, i2], s.heap.get? b = Option.none := fun b hb => none_keep K2.keep (by
    have : s₂.heap.objs.size ≤ b := by
      simp only [List.mem_cons, List.not_mem_nil, or_false] at hb
      rcases hb with e | e | e | e
      · rw [e, ← hzz]; exact Nat.le_add_right _ _
      · rw [e, ← hTOe]; exact Nat.le_add_right _ _
      · rw [e]; exact Nat.le_refl _
      · rw [e, ← hi2e]; exact Nat.le_add_right _ _
    cases e : s₂.heap.get? b with
    | none => rfl
    | some o => exact absurd (Heap.lt_size e) (Nat.not_lt.mpr this))
  have fpOld : ∀ b ∈ [z, TI, TO, s₂.heap.objs.size, i2, l1, l2], (h'.get? b).isSome = true := fun b hb => by
    simp only [List.mem_cons, List.not_mem_nil, or_false] at hb
    rcases hb with q | q | q | q | q | q | q
    · rw [q, hz]; rfl
    · rw [q, hTI]; rfl
    · rw [q, hTO]; rfl
    · obtain ⟨o, e, _⟩ := hi1; rw [q, e]; rfl
    · obtain ⟨o, e, _⟩ := hi2; rw [q, e]; rfl
    · obtain ⟨o, e, _⟩ := hl1; rw [q, hk _ _ e]; rfl
    · obtain ⟨o, e, _⟩ := hl2; rw [q, hk _ _ e]; rfl
  generalize hwr : [z, TO, s₂.heap.objs.size, i2] = wr at W wrNew
  generalize hfp : [z, TI, TO, s₂.heap.objs.size, i2, l1, l2] = fp at W fpOld
  generalize hSt : (fun (i : Nat) (h : Heap) => IsZip h z TI TO .none ∧ IsPair h TI (.ref s₂.heap.objs.size) (.ref i2) ∧ (∃ a b, IsPair h TO a b) ∧ h.IsListIter s₂.heap.objs.size l1 i ∧ h.IsListIter i2 l2 i ∧ h.IsList l1 its1 ∧ h.IsList l2 its2) = St at W
  have st0 : St 0 h' := by rw [← hSt]; exact ⟨hz, hTI, ⟨_, _, hTO⟩, hi1, hi2, hl1.at fun o e => hk _ o e, hl2.at fun o e => hk _ o e⟩
  refine W.self 0 { s₂ with heap := h' } _ _ st0 ?_
  have K3 : Ks s { s₂ with heap := h' } := by
    obtain ⟨h₂, tk, rfl, kk⟩ := K2
    exact ⟨h', tk, rfl, fun b o e => hk b o (kk b o e)⟩
  refine comp_closed P S fun Da L cenv s₄ K4 nDa nL hDL eok hloc hlist hns => ?_
  have K4' := K3.trans K4
  have hDf : Da ∉ fp := fun q => by have := fpOld _ q; rw [show h'.get? Da = Option.none from nDa] at this; cases this
  have hLf : L ∉ fp := fun q => by have := fpOld _ q; rw [show h'.get? L = Option.none from nL] at this; cases this
  have hDw : Da ∉ wr := fun q => hDf (W.sub _ q)
  have hLw : L ∉ wr := fun q => hLf (W.sub _ q)
  have st4 : St 0 s₄.heap := W.frame _ _ _ st0 fun b _ o e => K4.keep b o e
  have sD : s.heap.get? Da = Option.none := none_keep K3.keep nDa
  have sL : s.heap.get? L = Option.none := none_keep K3.keep nL
  have hkc : cenv.kindOf c = some .local := by unfold Env.kindOf; rw [eok.names, relN_lookup, hc]; rfl
  have hkd : cenv.kindOf d = some .local := by unfold Env.kindOf; rw [eok.names, relN_lookup, hd]; rfl
  have hkind : (cenv.scope.kind == .class || (cenv.scope.kind == .module && cenv.locals != cenv.globals)) = false := by rw [eok.kind]; rfl
  have ivs : ∀ (i : Nat) v, its1[i]? = some v → ∃ t, v = .int (xs[i]?.getD 0) t := fun i v e => ints_at z1 e
  have jvs : ∀ (i : Nat) v, its2[i]? = some v → ∃ t, v = .int (ys[i]?.getD 0) t := fun i v e => ints_at z2 e
  have nlen : (xs.zip ys).length = min its1.size its2.size := by rw [List.length_zip, n1, n2]
  have loop : ∀ s₅ : Shared, Ks s s₅ → St 0 s₅.heap → s₅.heap.PlainList Da #[] → s₅.heap.Ns L (fun _ => Option.none) → codeAny C.M A (.compLoop (.ListComp elt [⟨.Tuple [.Name c pc, .Name d pd] kk tp, .Call f [e1, e2] [] zp, ifs, 0⟩] scope pos) 0 (.ref z) (.ref Da) cenv)
      (compPost C.M A nox Option.none (fun v s' => Ks s s' ∧ Den ok s'.heap (.list (((xs.zip ys).filter fun q => p q.1 q.2).map fun q => .int (g q.1 q.2))) v) (.ref Da) L) s₅ := by
    intro s₅ K5 st5 l5 ns5
    refine loop_pair (prog := C.prog) (w := C.w) (fun n s' => ∃ i vs m', And7 (Ks s s') (St i s'.heap) (s'.heap.PlainList Da vs) (s'.heap.Ns L m') (i ≤ min its1.size its2.size) (n = min its1.size its2.size + 1 - i) (DenL T s'.heap ((((xs.zip ys).take i).filter fun q => p q.1 q.2).map fun q => D.int (g q.1 q.2)) vs.toList)) ?_ (min its1.size its2.size + 1)
      ⟨0, #[], _, K5, st5, l5, ns5, Nat.zero_le _, rfl, by simp only [List.take_zero, List.filter_nil, List.map_nil, DenL]⟩
    rintro n s' ⟨i, vs, m', hk', st', hl', hn', hi, rfl, hd'⟩
    have flatL : ∀ (l : List (Int × Int)), ∀ e ∈ (l.map fun q => D.int (g q.1 q.2)), Flat e := fun l e he => by obtain ⟨q, _, rfl⟩ := List.mem_map.mp he; trivial
    by_cases hlt : i < min its1.size its2.size
    · refine W.item i s' _ _ hlt st' fun TT vals h₁ tk₁ hPt hTT hMid hk₁ => ?_
      obtain ⟨x, y, hx, hy, rfl⟩ := hPt
      obtain ⟨tx, rfl⟩ := ivs i x hx
      obtain ⟨ty, rfl⟩ := jvs i y hy
      generalize hX : xs[i]?.getD 0 = X at hTT
      generalize hY : ys[i]?.getD 0 = Y at hTT
      have hapart := W.apart i TT h₁ hMid
      refine W.go _ _ _ i TT { s' with heap := h₁, toks := tk₁ } _ _ hMid fun h₂ st₂ hk₂ => ?_
      have hTT2 : h₂.IsTuple TT #[.int X tx, .int Y ty] := hTT.at fun o e => hk₂ _ o hapart e
      refine wpAny_assign_Tuple P.rm.hand hTT2 rfl rfl fun h₃ hx₃ => ?_
      have ns₂ : h₂.Ns L m' := Ns.onto (Ns.onto hn' fun o e => hk₁ _ o hLw e) fun o e => hk₂ _ o hLw e
      have sz₂ : ∀ b o, h₂.get? b = some o → h₃.get? b = some o := fun b o e => hx₃ b o (fun q => by
        have := Heap.lt_size e
        rw [q] at this; exact Nat.lt_irrefl _ this) e
      have ns₃ : h₃.Ns cenv.locals m' := by rw [hloc]; exact Ns.onto ns₂ fun o e => sz₂ _ o e
      show wpAny _ A (do holding [.int Y ty] (assign (.Name c pc) cenv (.int X tx)); do holding [] (assign (.Name d pd) cenv (.int Y ty)); pure ()) _ _ _
      refine wpAny_bind (wpAny_holding (wpAny_assign_Name (wpAny_storeName_local hkc ns₃ (fun h₄ ns₄ hs₄ => ?_) hkind)))
      refine wpAny_bind (wpAny_holding (wpAny_assign_Name (wpAny_storeName_local hkd ns₄ (fun h₅ ns₅ hs₅ => wpAny_pure ?_) hkind)))
      have K5' : ∀ b o, b ≠ L → h₃.get? b = some o → h₅.get? b = some o := fun b o hb e => hs₅.extBut b o (by rw [hloc]; exact hb) (hs₄.extBut b o (by rw [hloc]; exact hb) e)
      have kk : ∀ b o, b ∉ wr → b ≠ L → s'.heap.get? b = some o → h₅.get? b = some o := fun b o hb hbL e => K5' b o hbL (sz₂ b o (hk₂ b o hb (hk₁ b o hb e)))
      have Ks5 : ∀ tk, Ks s { s' with heap := h₅, toks := tk } := fun tk => by
        obtain ⟨h₀, t₀, rfl, k0⟩ := hk'
        exact ⟨h₅, tk, rfl, fun b o e => kk b o (fun q => by rw [wrNew _ q] at e; cases e) (fun q => by rw [q, sL] at e; cases e) (k0 b o e)⟩
      have st5 : St (i + 1) h₅ := W.frame _ _ _ st₂ fun b hb o e => K5' b o (fun q => hLf (q ▸ hb)) (sz₂ b o e)
      have l5' : h₅.PlainList Da vs := hl'.at fun o e => kk _ o hDw hDL e
      have d5 : DenL T h₅ ((((xs.zip ys).take i).filter fun q => p q.1 q.2).map fun q => D.int (g q.1 q.2)) vs.toList := hd'.flat (flatL _)
      have nsL : h₅.Ns L _ := hloc ▸ ns₅
      generalize hm5 : (fun y_1 => if y_1 = d then some (Value.int Y ty) else if y_1 = c then some (Value.int X tx) else m' y_1) = m₅ at ns₅ nsL
      have mc : m₅ c = some (.int X tx) := by rw [← hm5]; simp only [hcd, if_false, if_true]
      have md : m₅ d = some (.int Y ty) := by rw [← hm5]; simp only [if_true]
      generalize hs5 : ({ s' with heap := h₅, toks := _ } : Shared) = s5
      have es5 : s5.heap = h₅ := by rw [← hs5]
      have Ks5' : Ks s s5 := hs5 ▸ Ks5 _
      have P5 : Pre C (relN scope.names N) [(d, .int Y), (c, .int X)] [] k cenv (fun _ => True) A s5 := by
        refine ⟨eok, P.rm, P.base.keeps Ks5'.keep, ⟨fun y d' e => ?_, fun y xs e => by cases e⟩, fun _ _ => trivial⟩
        rw [es5]
        rw [List.lookup_cons] at e
        by_cases q : y = d
        · subst q; simp only [beq_self_eq_true, Option.some.injEq] at e; subst e; exact ⟨_, .inl ⟨hkd, m₅, ns₅, md⟩, den_int⟩
        · rw [beq_eq_false_iff_ne.mpr q, List.lookup_cons] at e
          by_cases q2 : y = c
          · subst q2; simp only [beq_self_eq_true, Option.some.injEq] at e; subst e; exact ⟨_, .inl ⟨hkc, m₅, ns₅, mc⟩, den_int⟩
          · rw [beq_eq_false_iff_ne.mpr q2] at e; cases e
      refine wpAny_mono ((ht X Y).run P5) (fun okb s₆ y6 => ?_) fun _ _ e => e
      obtain ⟨k6, rfl⟩ := y6
      have hz : (xs.zip ys)[i]? = some (X, Y) := by rw [zip_at (by rw [n1, n2]; exact hlt), hX, hY]
      have e6 : s5.heap = h₅ := es5
      have st6 : St (i + 1) s₆.heap := W.frame _ _ _ st5 fun b _ o e => k6.keep b o (e6 ▸ e)
      have l6 : s₆.heap.PlainList Da vs := l5'.at fun o e => k6.keep _ o (e6 ▸ e)
      have ns6 : s₆.heap.Ns L m₅ := Ns.onto nsL fun o e => k6.keep _ o (e6 ▸ e)
      have d6 := d5.flat (ok' := T) (h' := s₆.heap) (flatL _)
      cases hp : p X Y with
      | false =>
        simp only [Bool.false_eq_true, if_false]
        refine ⟨min its1.size its2.size + 1 - (i + 1), by lia, i + 1, vs, m₅, Ks5'.trans k6, st6, l6, ns6, hlt, rfl, ?_⟩
        rw [filter_take_succ (fun q => p q.1 q.2) (fun q => D.int (g q.1 q.2)) (xs.zip ys) i (X, Y) hz]
        simp only [hp, Bool.false_eq_true, if_false, List.append_nil]
        exact d6
      | true =>
        simp only [if_true]
        refine wpAny_mono (he X Y cenv _ A s₆ (P5.keeps k6)) (fun v s₇ z7 => ?_) fun _ _ e => e
        have l7 : s₇.heap.PlainList Da vs := l6.at fun o e => z7.1.keep _ o e
        have hsz7 : vs.size ≤ sizeLine := by
          have e1 := d6.length
          have e2 : ((((xs.zip ys).take i).filter fun q => p q.1 q.2).map fun q => D.int (g q.1 q.2)).length ≤ xs.length := by
            rw [List.length_map]; exact Nat.le_trans (List.length_filter_le _ _) (by rw [List.length_take, List.length_zip]; lia)
          have e3 : vs.toList.length = vs.size := Array.length_toList
          lia
        refine wpAny_list_append_plain (hsz := hsz7) l7 fun h₈ hl₈ hs₈ => ?_
        refine ⟨min its1.size its2.size + 1 - (i + 1), by lia, i + 1, vs.push v, m₅, ?_, ?_, hl₈, (ns6.keeps z7.1.keep).sameBut hs₈ (Ne.symm hDL), hlt, rfl, ?_⟩
        · obtain ⟨h₀, tk, rfl, kk0⟩ := (Ks5'.trans k6).trans z7.1
          exact ⟨h₈, tk, rfl, fun b o e => hs₈.extBut b o (fun q => by rw [q, sD] at e; cases e) (kk0 b o e)⟩
        · exact W.frame _ _ _ (W.frame _ _ _ st6 fun b _ o e => z7.1.keep b o e) fun b hb o e => hs₈.extBut b o (fun q => hDf (q ▸ hb)) e
        · rw [filter_take_succ (fun q => p q.1 q.2) (fun q => D.int (g q.1 q.2)) (xs.zip ys) i (X, Y) hz]
          simp only [hp, if_true]
          rw [Array.toList_push]
          exact DenL.flat (flat_snoc (flatL _) trivial) (DenL.snoc (d6.flat (ok' := T) (h' := s₇.heap) (flatL _)) (z7.2.flat (ok' := T) trivial))
    · have hin : i = min its1.size its2.size := by lia
      subst hin
      refine W.done s' _ _ st' fun h₁ tk₁ hk₁ => ?_
      have hks : Ks s { s' with heap := h₁, toks := tk₁ } := by
        obtain ⟨h₀, t₀, rfl, k0⟩ := hk'
        exact ⟨h₁, tk₁, rfl, fun b o e => hk₁ b o (fun q => by rw [wrNew _ q] at e; cases e) (k0 b o e)⟩
      refine ⟨m', Ns.onto hn' fun o e => hk₁ _ o hLw e, fun h' hs => ⟨?_, ?_⟩⟩
      · obtain ⟨h₀, tk, e, kk⟩ := hks
        refine ⟨h', tk₁, ?_, fun b o eo => hs.extBut b o (fun q => by rw [q, sL] at eo; cases eo) ?_⟩
        · obtain ⟨h₀', t₀, rfl, k0⟩ := hk'; rfl
        · have := kk b o eo
          have e' : h₀ = h₁ := by have := congrArg Shared.heap e; exact this.symm
          rw [e'] at this; exact this
      · simp only [Den]
        have hl1' : h₁.PlainList Da vs := hl'.at fun o e => hk₁ _ o hDw e
        refine ⟨Da, vs, rfl, P.new _ sD, (hl1'.extBut hs.extBut hDL).isList, ?_⟩
        rw [List.take_of_length_le (by rw [nlen]; exact Nat.le_refl _)] at hd'
        exact hd'.flat (flatL _)
  exact codeAny_compStart_list (loop s₄ K4' st4 hlist hns) (W.self 0 s₄ _ _ st4 (loop s₄ K4' st4 hlist hns))
end Mine
end

/-! Calc23 -/
section
namespace Mine
variable {C : Cx} {N : List (Str × NameKind)} {ρ ρ' : List (Str × D)} {μ μ' : List (Str × List D)} {k : Nat}

/-- a text parted: a new list -/
theorem call_split {A : Around} {E : Value → Shared → Prop} {s : Shared} {x y : Str} {t u : Tok} {Q : Value → Shared → Prop} (hy : (y.length == 0) = false) (hsz : x.length ≤ sizeLine)
    (hsz2 : (Builtin.Str.partsBetween x (Builtin.Str.occurrences x y 0 x.length (x.length + 1)) y.length).length ≤ sizeLine)
    (hq : ∀ (l : List (Str × Tok)) k, l.map (·.1) = Txt.split x y → Q (.ref s.heap.objs.size) { s with heap := s.heap.push { cls := .type "list", data := .seq (strValues l).toArray }, toks := k }) :
    wpAny (model C.prog C.w) A (call (.builtin "str.split") [.str x t, .str y u]) Q E s := by
  cases h1 : (decide (x.length < y.length) || decide (PySem.Builtin.Str.strKind x < PySem.Builtin.Str.strKind y)) with
  | true => exact call_meets F.slot_str_split (typeIs_str _ _ _) F.entry_str_split (F.args_str_split_2 _ _) (PySem.meets_str_split_cannot_occur x y t u h1) (hq [(x, t)] _ (if_pos h1).symm)
  | false =>
    have n1 := ne_true_of_eq_false h1
    cases hf : (Builtin.Str.occurrences x y 0 x.length (x.length + 1)).isEmpty with
    | true => exact call_meets F.slot_str_split (typeIs_str _ _ _) F.entry_str_split (F.args_str_split_2 _ _) (PySem.meets_str_split_not_found x y t u h1 hy hf) (hq [(x, t)] _ ((if_neg n1).trans (if_pos hf)).symm)
    | false =>
      refine call_meets F.slot_str_split (typeIs_str _ _ _) F.entry_str_split (F.args_str_split_2 _ _) (PySem.meets_str_split_sep x y t u h1 hy hf hsz hsz2) ?_
      show wants Q E _ { s with toks := _, heap := s.heap.push { cls := .type "list", data := .seq (strsFrom s.toks (Builtin.Str.partsBetween x (Builtin.Str.occurrences x y 0 x.length (x.length + 1)) y.length)).toArray } }
      rw [strsFrom_eq]
      exact hq (numbered s.toks _) _ ((numbered_texts _ _).trans ((if_neg n1).trans (if_neg (ne_true_of_eq_false hf))).symm)
theorem Ix.split {o : Expr} {pa pos pc : Pos} {kk : Nat} {x y : Str} (h : Ex C N ρ μ k o (.str x)) (hy : (y.length == 0) = false) (h1 : x.length ≤ sizeLine) (h2 : (Builtin.Str.partsBetween x (Builtin.Str.occurrences x y 0 x.length (x.length + 1)) y.length).length ≤ sizeLine) (h3 : (Txt.split x y).length ≤ sizeLine)
    (hline : (pa.endLine == pos.line) = true := by rfl) (hb : ∀ env, attributeBase o (Str.ofString "split") env (eval o env) = eval o env := by intro _; rfl)
    (hs : ∀ env x, foldedSetIterable (.Call (.Attribute o (Str.ofString "split") pa) [.Constant (.str y) kk pc] [] pos) env x = pure x := by intro _ _; rfl) :
    Ix C N ρ μ k (.Call (.Attribute o (Str.ofString "split") pa) [.Constant (.str y) kk pc] [] pos) ((Txt.split x y).map D.str) := by
  refine Ix.list (fun env ok A s P => ?_) (fun d hd => by obtain ⟨c, _, rfl⟩ := List.mem_map.mp hd; trivial) (by rw [List.length_map]; exact h3) hs
  refine Call_method1 (hb env) rfl hline (wpAny_mono (h env ok A s P) (fun v s₁ z => ?_) fun _ _ e => e)
  obtain ⟨z, t, rfl⟩ := z
  refine ⟨"str", _, F.plainAttrs_str, F.slot_str_split, F.type_str_split, typeIs_str _ _ _, (fun _ e => nomatch e), Calls.callWith_builtin rfl (Calls.evalArgs_plain (Calls.spliced_cons (wpAny_Constant_str (Calls.spliced_nil ?_))))⟩
  refine call_split hy h1 h2 fun l tk e => ⟨z.trans ⟨_, tk, rfl, fun b o e => Heap.get?_push_of_some _ e⟩, ?_⟩
  simp only [Den]
  refine ⟨_, _, rfl, P.new _ (none_keep z.keep (get_size _)), ⟨_, Heap.get?_push_size _ rfl, rfl, _, rfl⟩, ?_⟩
  rw [← e]
  clear e
  generalize s₁.heap.push _ = hh
  induction l with
  | nil => simp [strValues, DenL]
  | cons p l ih =>
    simp only [List.map_cons, strValues, DenL] at ih ⊢
    exact ⟨_, _, rfl, den_str, ih⟩

theorem compTurn_in (elt t1 i1 t2 i2 : Expr) (scope : Scope) (pos : Pos) (it acc : Value) (env : Env) :
    compTurn (.ListComp elt [⟨t1, i1, [], 0⟩, ⟨t2, i2, [], 0⟩] scope pos) 1 it acc env = (standAt i2.pos >>= fun _ => pyNext it >>= fun r => match r with
      | none => pure (.done .next)
      | some v => letOwnedTupleGo t2 it v >>= fun _ => assign t2 env v >>= fun _ =>
        (eval elt env >>= fun x => call (.builtin "list.append") [acc, x] >>= fun _ => pure ()) >>= fun _ =>
          again (.compLoop (.ListComp elt [⟨t1, i1, [], 0⟩, ⟨t2, i2, [], 0⟩] scope pos) 1 it acc env)) := by rfl
theorem compTurn_out (elt t1 i1 t2 i2 : Expr) (scope : Scope) (pos : Pos) (it acc : Value) (env : Env) :
    compTurn (.ListComp elt [⟨t1, i1, [], 0⟩, ⟨t2, i2, [], 0⟩] scope pos) 0 it acc env = (standAt i1.pos >>= fun _ => pyNext it >>= fun r => match r with
      | none => pure (.done .next)
      | some v => letOwnedTupleGo t1 it v >>= fun _ => assign t1 env v >>= fun _ =>
        eval i2 env >>= fun x => standAt i2.pos >>= fun _ => foldedSetIterable i2 env x >>= fun x => holding [x] (pyIter x) >>= fun j =>
          runOwn (.compStart (.ListComp elt [⟨t1, i1, [], 0⟩, ⟨t2, i2, [], 0⟩] scope pos) 1 j acc env) env >>= fun _ =>
          again (.compLoop (.ListComp elt [⟨t1, i1, [], 0⟩, ⟨t2, i2, [], 0⟩] scope pos) 0 it acc env)) := by rfl

section
variable {prog : Program} {w : World} {A : Around} {s : Shared} {R : Result → Shared → Prop}
theorem start_in {elt t1 i1 t2 i2 : Expr} {scope : Scope} {pos : Pos} {it acc : Value} {env : Env}
    (h0 : codeAny (model prog w) A (.compLoop (.ListComp elt [⟨t1, i1, [], 0⟩, ⟨t2, i2, [], 0⟩] scope pos) 1 it acc env) R s)
    (h : wpAny (model prog w) A (pyIter it) (fun it' s' => codeAny (model prog w) A (.compLoop (.ListComp elt [⟨t1, i1, [], 0⟩, ⟨t2, i2, [], 0⟩] scope pos) 1 it' acc env) R s') nox s) :
    codeAny (model prog w) A (.compStart (.ListComp elt [⟨t1, i1, [], 0⟩, ⟨t2, i2, [], 0⟩] scope pos) 1 it acc env) R s := by
  refine codeAny_of_tree ?_
  show wpAny _ _ ((compStart (.ListComp elt [⟨t1, i1, [], 0⟩, ⟨t2, i2, [], 0⟩] scope pos) 1 it acc env).onRaise (fun x => do noteFrame x env; standAt theWindowsPlace)) _ _ s
  refine wpAny_notedAt ?_
  unfold compStart
  show wpAny _ _ (ask >>= _) _ _ s
  refine wpAny_bind (wpAny_askSetting (wpAny_ite ?_))
  split
  · first
      | exact wpAny_bind (wpAny_pure (wpAny_pure (And.intro rfl h0)))
      | exact wpAny_pure (And.intro rfl h0)
  · first
      | exact wpAny_bind (wpAny_rule (wpAny_bind (wpAny_standAt (wpAny_bind (wpAny_mono h (fun it' s' h' => wpAny_pure (And.intro rfl h')) fun _ _ x => x.elim)))))
      | (refine wpAny_bind (wpAny_rule ?_); show wpAny _ _ (standAt i2.pos >>= _) _ _ s; exact wpAny_bind (wpAny_standAt (wpAny_bind (wpAny_mono h (fun it' s' h' => wpAny_pure (And.intro rfl h')) fun _ _ x => x.elim))))
theorem loop_in {elt i1 i2 t1 : Expr} {y : Str} {py : Pos} {scope : Scope} {pos : Pos} {it acc : Value} {env : Env} (I : Nat → Shared → Prop)
    (turn : ∀ n s, I n s → wpAny (model prog w) A (pyNext it) (fun r s₁ => match r with
      | none => R (.ok .next) s₁
      | some v => wpAny (model prog w) A (assign (.Name y py) env v) (fun _ s₂ => wpAny (model prog w) A (eval elt env) (fun x s₃ =>
          wpAny (model prog w) A (call (.builtin "list.append") [acc, x]) (fun _ s₄ => ∃ m, m < n ∧ I m s₄) nox s₃) nox s₂) nox s₁) nox s)
    (n : Nat) (h : I n s) : codeAny (model prog w) A (.compLoop (.ListComp elt [⟨t1, i1, [], 0⟩, ⟨.Name y py, i2, [], 0⟩] scope pos) 1 it acc env) R s := by
  refine codeAny_loop rfl I (fun n s hI => ?_) n h
  show wpAny _ A ((compTurn (.ListComp elt [⟨t1, i1, [], 0⟩, ⟨.Name y py, i2, [], 0⟩] scope pos) 1 it acc env).onRaise (fun x => do noteFrame x env; theTreesLotGoes x)) _ _ s
  refine wpAny_noted ?_
  rw [compTurn_in]
  refine wpAny_bind (wpAny_standAt (wpAny_bind (wpAny_mono (turn n s hI) (fun r s₁ h₁ => ?_) fun _ _ h' => h'.elim)))
  cases r with
  | none => exact wpAny_pure h₁
  | some v =>
    refine wpAny_bind (wpAny_of_eq (show letOwnedTupleGo (.Name y py) it v = pure () from rfl) ?_)
    exact wpAny_bind (wpAny_mono h₁ (fun _ s₂ h₂ => wpAny_bind (wpAny_bind (wpAny_mono h₂ (fun x s₃ h₃ => wpAny_bind (wpAny_mono h₃ (fun _ s₄ h₄ => wpAny_pure (wpAny_pure ⟨rfl, h₄⟩)) fun _ _ h' => h'.elim)) fun _ _ h' => h'.elim))) fun _ _ h' => h'.elim)
theorem loop_out {elt i1 i2 t2 : Expr} {x : Str} {px : Pos} {scope : Scope} {pos : Pos} {it acc : Value} {env : Env} (I : Nat → Shared → Prop) (hs : ∀ u, foldedSetIterable i2 env u = pure u)
    (turn : ∀ n s, I n s → wpAny (model prog w) A (pyNext it) (fun r s₁ => match r with
      | none => R (.ok .next) s₁
      | some v => wpAny (model prog w) A (assign (.Name x px) env v) (fun _ s₂ => wpAny (model prog w) A (eval i2 env) (fun u s₃ => wpAny (model prog w) A (pyIter u) (fun j s₄ =>
          codeAny (model prog w) A (.compStart (.ListComp elt [⟨.Name x px, i1, [], 0⟩, ⟨t2, i2, [], 0⟩] scope pos) 1 j acc env) (fun r s₅ => r = .ok .next ∧ ∃ m, m < n ∧ I m s₅) s₄) nox s₃) nox s₂) nox s₁) nox s)
    (n : Nat) (h : I n s) : codeAny (model prog w) A (.compLoop (.ListComp elt [⟨.Name x px, i1, [], 0⟩, ⟨t2, i2, [], 0⟩] scope pos) 0 it acc env) R s := by
  refine codeAny_loop rfl I (fun n s hI => ?_) n h
  show wpAny _ A ((compTurn (.ListComp elt [⟨.Name x px, i1, [], 0⟩, ⟨t2, i2, [], 0⟩] scope pos) 0 it acc env).onRaise (fun x => do noteFrame x env; theTreesLotGoes x)) _ _ s
  refine wpAny_noted ?_
  rw [compTurn_out]
  refine wpAny_bind (wpAny_standAt (wpAny_bind (wpAny_mono (turn n s hI) (fun r s₁ h₁ => ?_) fun _ _ h' => h'.elim)))
  cases r with
  | none => exact wpAny_pure h₁
  | some v =>
    refine wpAny_bind (wpAny_of_eq (show letOwnedTupleGo (.Name x px) it v = pure () from rfl) ?_)
    refine wpAny_bind (wpAny_mono h₁ (fun _ s₂ h₂ => wpAny_bind (wpAny_mono h₂ (fun u s₃ h₃ => wpAny_bind (wpAny_standAt (wpAny_bind (wpAny_of_eq (hs u) (wpAny_bind (wpAny_holding (wpAny_mono h₃ (fun j s₄ h₄ => wpAny_bind (wpAny_runOwn ?_)) fun _ _ h' => h'.elim))))))) fun _ _ h' => h'.elim)) fun _ _ h' => h'.elim)
    refine codeAny_mono h₄ fun r s₅ h₅ => ?_
    obtain ⟨rfl, h₅⟩ := h₅
    exact wpAny_pure ⟨rfl, h₅⟩
end
end Mine
end

/-! Calc24 -/
section
namespace Mine
variable {C : Cx} {N : List (Str × NameKind)} {ρ ρ' : List (Str × D)} {μ μ' : List (Str × List D)} {k : Nat}

/-- what the inner turns leave as it was -/
noncomputable def Still (wr : List Addr) (Da L : Addr) (h h' : Heap) : Prop := ∀ b o, b ∉ wr → b ≠ Da → b ≠ L → h.get? b = some o → h'.get? b = some o
theorem inner_loop {A : Around} {scope : Scope} {x y : Str} {py pos : Pos} {elt it1 it2 t1 : Expr} {L Da I2 : Addr} {fp2 wr2 : List Addr} {Pv : Nat → Value → Prop} {St2 : Nat → Heap → Prop} {es pre : List D} {d : D} (f : D → D) {cenv : Env}
    (eok : EnvOk (relN scope.names N) cenv) (hloc : cenv.locals = L) (rm : Rm k A) (hx : scope.names.lookup x = some .local) (hy : scope.names.lookup y = some .local) (hxy : x ≠ y)
    (W : Walks C.prog C.w A I2 fp2 wr2 es.length Pv St2) (hv : ∀ i v, i < es.length → Pv i v → ∃ e, es[i]? = some e ∧ ∀ h, Den T h e v) (fd : Flat d)
    (he : ∀ e ∈ es, Ex C (relN scope.names N) [(y, e), (x, d)] [] k elt (f e)) (ff : ∀ e, Flat (f e)) (fp : ∀ e ∈ pre, Flat e)
    (hDf : Da ∉ fp2) (hLf : L ∉ fp2) (hDL : Da ≠ L) (hsz : pre.length + es.length ≤ sizeLine)
    {J : Shared → Prop} (hJ : ∀ s h' tk, J s → Still wr2 Da L s.heap h' → J { s with heap := h', toks := tk }) (hB : ∀ s, J s → C.K.In s.heap)
    {R : Result → Shared → Prop} {s₀ : Shared} {ys : Array Value} {m : Str → Option Value} {v : Value} (j0 : J s₀) (st : St2 0 s₀.heap) (l0 : s₀.heap.PlainList Da ys) (n0 : s₀.heap.Ns L m) (m0 : m x = some v) (dv : ∀ h, Den T h d v) (d0 : DenL T s₀.heap pre ys.toList)
    (hR : ∀ s' m' ys', J s' → s'.heap.PlainList Da ys' → s'.heap.Ns L m' → DenL T s'.heap (pre ++ es.map f) ys'.toList → R (.ok .next) s') :
    codeAny C.M A (.compLoop (.ListComp elt [⟨t1, it1, [], 0⟩, ⟨.Name y py, it2, [], 0⟩] scope pos) 1 (.ref I2) (.ref Da) cenv) R s₀ := by
  have hDw : Da ∉ wr2 := fun q => hDf (W.sub _ q)
  have hLw : L ∉ wr2 := fun q => hLf (W.sub _ q)
  have hkx : cenv.kindOf x = some .local := by unfold Env.kindOf; rw [eok.names, relN_lookup, hx]; rfl
  have hky : cenv.kindOf y = some .local := by unfold Env.kindOf; rw [eok.names, relN_lookup, hy]; rfl
  have hkind : (cenv.scope.kind == .class || (cenv.scope.kind == .module && cenv.locals != cenv.globals)) = false := by rw [eok.kind]; rfl
  refine loop_in (prog := C.prog) (w := C.w) (fun n s' => ∃ i ys' m', And8 (J s') (St2 i s'.heap) (s'.heap.PlainList Da ys') (s'.heap.Ns L m') (m' x = some v) (i ≤ es.length) (n = es.length + 1 - i) (DenL T s'.heap (pre ++ (es.take i).map f) ys'.toList)) ?_ (es.length + 1)
    ⟨0, ys, m, j0, st, l0, n0, m0, Nat.zero_le _, rfl, by simpa using d0⟩
  rintro n s' ⟨i, ys', m', hj, st', hl', hn', hm', hi, rfl, hd'⟩
  have flatP : ∀ l : List D, ∀ e ∈ pre ++ l.map f, Flat e := fun l e he => by
    rcases List.mem_append.mp he with q | q
    · exact fp e q
    · obtain ⟨e', _, rfl⟩ := List.mem_map.mp q; exact ff e'
  by_cases hlt : i < es.length
  · refine W.item i _ _ _ hlt st' fun u h₁ tk₁ hPu st₁ hk₁ => ?_
    obtain ⟨e, he', hdu⟩ := hv i u hlt hPu
    have n₁ : h₁.Ns cenv.locals m' := hloc ▸ Ns.onto hn' fun o e => hk₁ _ o hLw e
    refine wpAny_assign_Name (wpAny_storeName_local hky n₁ (fun h₂ n₂ hs₂ => ?_) hkind)
    rw [hloc] at n₂ hs₂
    have j₂ : J { s' with heap := h₂, toks := tk₁ + 1 } := hJ s' h₂ (tk₁ + 1) hj fun b o b1 b2 b3 e => hs₂.extBut b o b3 (hk₁ b o b1 e)
    have st₂ : St2 (i + 1) h₂ := W.frame _ _ _ st₁ fun b hb o e => hs₂.extBut b o (fun q => hLf (q ▸ hb)) e
    have l₂ : h₂.PlainList Da ys' := hl'.at fun o e => hs₂.extBut _ o hDL (hk₁ _ o hDw e)
    have d₂ : DenL T h₂ (pre ++ (es.take i).map f) ys'.toList := hd'.flat (flatP _)
    have em : e ∈ es := List.mem_of_getElem? he'
    generalize hm2 : (fun z => if z = y then some u else m' z) = m₂ at n₂
    have my : m₂ y = some u := by rw [← hm2]; simp only [if_true]
    have mx : m₂ x = some v := by rw [← hm2]; simp only [hxy, if_false]; exact hm'
    have P2 : Pre C (relN scope.names N) [(y, e), (x, d)] [] k cenv T A { s' with heap := h₂, toks := tk₁ + 1 } := by
      refine ⟨eok, rm, hB _ j₂, ⟨fun z d' q => ?_, fun z xs q => by cases q⟩, fun _ _ => trivial⟩
      rw [List.lookup_cons] at q
      by_cases h1 : z = y
      · subst h1; simp only [beq_self_eq_true, Option.some.injEq] at q; subst q; exact ⟨u, .inl ⟨hky, m₂, hloc ▸ n₂, my⟩, hdu _⟩
      · rw [beq_eq_false_iff_ne.mpr h1, List.lookup_cons] at q
        by_cases h2 : z = x
        · subst h2; simp only [beq_self_eq_true, Option.some.injEq] at q; subst q; exact ⟨v, .inl ⟨hkx, m₂, hloc ▸ n₂, mx⟩, dv _⟩
        · rw [beq_eq_false_iff_ne.mpr h2] at q; cases q
    refine wpAny_mono (he e em cenv T A _ P2) (fun r s₃ z => ?_) fun _ _ e => e
    have l₃ : s₃.heap.PlainList Da ys' := l₂.at fun o e => z.1.keep _ o e
    have n₃ : s₃.heap.Ns L m₂ := n₂.keeps z.1.keep
    have st₃ : St2 (i + 1) s₃.heap := W.frame _ _ _ st₂ fun b _ o e => z.1.keep b o e
    have d₃ : DenL T s₃.heap (pre ++ (es.take i).map f) ys'.toList := d₂.flat (flatP _)
    have hs3 : ys'.size ≤ sizeLine := by
      have e1 := d₃.length
      rw [List.length_append, List.length_map, List.length_take] at e1
      have e3 : ys'.toList.length = ys'.size := Array.length_toList
      lia
    obtain ⟨h₃, t₃, rfl, k3⟩ := z.1
    refine wpAny_list_append_plain (hsz := hs3) l₃ fun h₄ hl₄ hs₄ => ?_
    refine ⟨es.length + 1 - (i + 1), by lia, i + 1, ys'.push r, m₂, ?_, ?_, hl₄, n₃.sameBut hs₄ (Ne.symm hDL), mx, hlt, rfl, ?_⟩
    · have := hJ _ h₄ t₃ j₂ fun b o b1 b2 b3 e => hs₄.extBut b o b2 (k3 b o e)
      exact this
    · exact W.frame _ _ _ st₃ fun b hb o e => hs₄.extBut b o (fun q => hDf (q ▸ hb)) e
    · rw [List.take_add_one, he', Array.toList_push]
      simp only [Option.toList_some, List.map_append, List.map_cons, List.map_nil]
      rw [← List.append_assoc]
      exact DenL.flat (flat_snoc (flatP _) (ff e)) (DenL.snoc d₃ (z.2.flat (ff e)))
  · have hin : i = es.length := by lia
    subst hin
    refine W.done _ _ _ st' fun h₁ tk₁ hk₁ => ?_
    refine hR _ m' ys' (hJ s' h₁ tk₁ hj fun b o b1 _ _ e => hk₁ b o b1 e) (hl'.at fun o e => hk₁ _ o hDw e) (Ns.onto hn' fun o e => hk₁ _ o hLw e) ?_
    rw [List.take_length] at hd'
    exact hd'.flat (flatP _)

theorem Ex.comp2 {scope : Scope} {x y : Str} {px py pos : Pos} {elt it1 it2 : Expr} {ds : List D} (es : D → List D) (f : D → D → D) (ix : Ixw C N ρ μ k it1 ds)
    (jx : ∀ d ∈ ds, Ix C (relN scope.names N) [(x, d)] [] k it2 (es d)) (he : ∀ d ∈ ds, ∀ e ∈ es d, Ex C (relN scope.names N) [(y, e), (x, d)] [] k elt (f d e))
    (ff : ∀ d e, Flat (f d e)) (hsz : (ds.flatMap fun d => (es d).map (f d)).length ≤ sizeLine) (hxy : x ≠ y)
    (hS : scopeOkB N scope = true := by rfl) (hx : scope.names.lookup x = some .local := by rfl) (hy : scope.names.lookup y = some .local := by rfl) (plain : ∀ env x, foldedSetIterable it2 env x = pure x := by intro _ _; rfl) :
    Ex C N ρ μ k (.ListComp elt [⟨.Name x px, it1, [], 0⟩, ⟨.Name y py, it2, [], 0⟩] scope pos) (.list (ds.flatMap fun d => (es d).map (f d))) := by
  intro env ok A s P
  have S := scopeOk_of hS
  rw [eval_ListComp]
  refine wpAny_comprehension_free (use := Option.none) rfl (ix.plain env) (clos_ok P.eok S) S.kind (names_ok S) ?_
  refine wpAny_mono (ix.run env ok A s P) (fun xv s₁ h₁ => wpAny_mono h₁ (fun it s₂ h₂ => ?_) fun _ _ e => e) fun _ _ e => e
  obtain ⟨K2, I1, fp1, wr1, Pv, St1, rfl, W, st, hfp, _, hwr, hv, live⟩ := h₂
  refine comp_closed P S fun Da L cenv s₄ K4 nDa nL hDL eok hloc hlist hns => ?_
  have K4' := K2.trans K4
  have hDf : Da ∉ fp1 := fun q => by have := live _ _ st _ q; rw [nDa] at this; cases this
  have hLf : L ∉ fp1 := fun q => by have := live _ _ st _ q; rw [nL] at this; cases this
  have hDw : Da ∉ wr1 := fun q => hDf (W.sub _ q)
  have hLw : L ∉ wr1 := fun q => hLf (W.sub _ q)
  have st4 : St1 0 s₄.heap := W.frame _ _ _ st fun b _ o e => K4.keep b o e
  have sD : s.heap.get? Da = Option.none := none_keep K2.keep nDa
  have sL : s.heap.get? L = Option.none := none_keep K2.keep nL
  have hkx : cenv.kindOf x = some .local := by unfold Env.kindOf; rw [eok.names, relN_lookup, hx]; rfl
  have hkind : (cenv.scope.kind == .class || (cenv.scope.kind == .module && cenv.locals != cenv.globals)) = false := by rw [eok.kind]; rfl
  have flatG : ∀ l : List D, ∀ e ∈ (l.flatMap fun d => (es d).map (f d)), Flat e := fun l e he => by
    obtain ⟨d, _, q⟩ := List.mem_flatMap.mp he
    obtain ⟨e', _, rfl⟩ := List.mem_map.mp q
    exact ff _ _
  have hR : ∀ s' m' ys, Ks s s' → s'.heap.Ns L m' → s'.heap.PlainList Da ys → DenL T s'.heap (ds.flatMap fun d => (es d).map (f d)) ys.toList →
      compPost C.M A nox Option.none (fun v s' => Ks s s' ∧ Den ok s'.heap (.list (ds.flatMap fun d => (es d).map (f d))) v) (.ref Da) L (.ok .next) s' := fun s' m' ys hk hn hl hd => by
    refine ⟨m', hn, fun h' hs => ⟨?_, ?_⟩⟩
    · obtain ⟨h₁, tk, rfl, kk⟩ := hk
      exact ⟨h', tk, rfl, fun b o e => hs.extBut b o (fun q => by rw [q, sL] at e; cases e) (kk b o e)⟩
    · simp only [Den]
      exact ⟨Da, ys, rfl, P.new _ sD, (hl.extBut hs.extBut hDL).isList, hd.flat (flatG _)⟩
  have loop : ∀ s₅ : Shared, Ks s s₅ → St1 0 s₅.heap → s₅.heap.PlainList Da #[] → s₅.heap.Ns L (fun _ => Option.none) → codeAny C.M A (.compLoop (.ListComp elt [⟨.Name x px, it1, [], 0⟩, ⟨.Name y py, it2, [], 0⟩] scope pos) 0 (.ref I1) (.ref Da) cenv)
      (compPost C.M A nox Option.none (fun v s' => Ks s s' ∧ Den ok s'.heap (.list (ds.flatMap fun d => (es d).map (f d))) v) (.ref Da) L) s₅ := by
    intro s₅ K5 st5 l5 ns5
    refine loop_out (prog := C.prog) (w := C.w) (fun n s' => ∃ i ys m', And7 (Ks s s') (St1 i s'.heap) (s'.heap.PlainList Da ys) (s'.heap.Ns L m') (i ≤ ds.length) (n = ds.length + 1 - i) (DenL T s'.heap ((ds.take i).flatMap fun d => (es d).map (f d)) ys.toList)) (plain cenv) ?_ (ds.length + 1)
      ⟨0, #[], _, K5, st5, l5, ns5, Nat.zero_le _, rfl, by simp only [List.take_zero, List.flatMap_nil, DenL]⟩
    rintro n s' ⟨i, ys, m', hk, st', hl', hn', hi, rfl, hd'⟩
    by_cases hlt : i < ds.length
    · refine W.item i _ _ _ hlt st' fun v h₁ tk₁ hPv st₁ hk₁ => ?_
      obtain ⟨d, hd, hdv⟩ := hv i v hlt hPv
      have hdm : d ∈ ds := List.mem_of_getElem? hd
      have n₁ : h₁.Ns cenv.locals m' := hloc ▸ Ns.onto hn' fun o e => hk₁ _ o hLw e
      refine wpAny_assign_Name (wpAny_storeName_local hkx n₁ (fun h₂ n₂ hs₂ => ?_) hkind)
      rw [hloc] at n₂ hs₂
      have K2' : Keep s.heap h₂ := fun b o e => hs₂.extBut b o (fun q => by rw [q, sL] at e; cases e) (hk₁ b o (fun q => by rw [hwr _ q] at e; cases e) (hk.keep b o e))
      have st₂ : St1 (i + 1) h₂ := W.frame _ _ _ st₁ fun b hb o e => hs₂.extBut b o (fun q => hLf (q ▸ hb)) e
      have l₂ : h₂.PlainList Da ys := hl'.at fun o e => hs₂.extBut _ o hDL (hk₁ _ o hDw e)
      have d₂ : DenL T h₂ ((ds.take i).flatMap fun d => (es d).map (f d)) ys.toList := hd'.flat (flatG _)
      generalize hm2 : (fun z => if z = x then some v else m' z) = m₂ at n₂
      have mx : m₂ x = some v := by rw [← hm2]; simp only [if_true]
      have fd : Flat d := ix.flat d hdm
      have Ks2 : Ks s { s' with heap := h₂, toks := tk₁ + 1 } := by
        obtain ⟨h₀, t₀, rfl, _⟩ := hk
        exact ⟨h₂, _, rfl, K2'⟩
      generalize hs2 : ({ s' with heap := h₂, toks := tk₁ + 1 } : Shared) = s2 at Ks2
      have es2 : s2.heap = h₂ := by rw [← hs2]
      have P2 : Pre C (relN scope.names N) [(x, d)] [] k cenv (fun a => a ≠ Da ∧ a ≠ L ∧ a ∉ fp1) A s2 := by
        refine ⟨eok, P.rm, P.base.keeps Ks2.keep, ⟨fun z d' q => ?_, fun z xs q => by cases q⟩, fun a ha => ⟨fun q => ?_, fun q => ?_, fun q => ?_⟩⟩
        · rw [es2]
          rw [List.lookup_cons] at q
          by_cases h1 : z = x
          · subst h1; simp only [beq_self_eq_true, Option.some.injEq] at q; subst q; exact ⟨v, .inl ⟨hkx, m₂, hloc ▸ n₂, mx⟩, hdv.flat fd⟩
          · rw [beq_eq_false_iff_ne.mpr h1] at q; cases q
        · obtain ⟨nn, e⟩ := l₂; rw [es2, q, e] at ha; cases ha
        · obtain ⟨o, _, _, e, _⟩ := n₂; rw [es2, q, e] at ha; cases ha
        · have := live _ _ st₂ _ q; rw [es2] at ha; rw [ha] at this; cases this
      have hrun := (jx d hdm).run cenv _ A s2 P2
      refine wpAny_mono hrun (fun u s₃ h₃ => wpAny_mono h₃ (fun j s₄' h₄ => ?_) fun _ _ e => e) fun _ _ e => e
      obtain ⟨K34, I2, fp2, wr2, Pv2, St2, rfl, W2, st2, hfp2, hok2, hwr2, hv2, live2⟩ := h₄
      simp only [Bool.false_eq_true, if_false] at hok2
      have l₄ : s₄'.heap.PlainList Da ys := l₂.at fun o e => K34.keep _ o (es2 ▸ e)
      have n₄ : s₄'.heap.Ns L m₂ := Ns.onto n₂ fun o e => K34.keep _ o (es2 ▸ e)
      have st₄ : St1 (i + 1) s₄'.heap := W.frame _ _ _ st₂ fun b _ o e => K34.keep b o (es2 ▸ e)
      have d₄ : DenL T s₄'.heap ((ds.take i).flatMap fun d => (es d).map (f d)) ys.toList := d₂.flat (flatG _)
      have base := P.base
      have hsz' : ((ds.take i).flatMap fun d => (es d).map (f d)).length + (es d).length ≤ sizeLine := by
        have e0 : ds = ds.take i ++ d :: ds.drop (i + 1) := by
          rw [← List.take_append_drop i ds]
          have := List.getElem?_eq_some_iff.mp hd
          obtain ⟨hh, e1⟩ := this
          conv => rhs; rw [List.take_append_drop]
          rw [← e1, List.drop_eq_getElem_cons hh]
        have e1 : (ds.flatMap fun d => (es d).map (f d)).length = ((ds.take i).flatMap fun d => (es d).map (f d)).length + ((es d).length + ((ds.drop (i + 1)).flatMap fun d => (es d).map (f d)).length) := by
          conv => lhs; rw [e0]
          simp only [List.flatMap_append, List.flatMap_cons, List.length_append, List.length_map]
        lia
      have inner := fun s₆ (h : s₆ = s₄') => inner_loop (C := C) (N := N) (k := k) (A := A) (scope := scope) (x := x) (y := y) (py := py) (pos := pos) (elt := elt) (it1 := it1) (it2 := it2) (t1 := .Name x px) (f := f d) (cenv := cenv) eok hloc P.rm hx hy hxy W2
        (fun i' v' hi' hP' => by obtain ⟨e, e1, e2⟩ := hv2 i' v' hi' hP'; exact ⟨e, e1, fun h => e2.flat ((jx d hdm).flat e (List.mem_of_getElem? e1))⟩) fd (he d hdm) (ff d) (flatG _)
        (fun q => (hok2 _ q).1 rfl) (fun q => (hok2 _ q).2.1 rfl) hDL hsz'
        (J := fun s'' => Ks s s'' ∧ St1 (i + 1) s''.heap)
        (fun s'' h' tk hJ hst => ⟨by
          obtain ⟨h₀, t₀, rfl, k0⟩ := hJ.1
          exact ⟨h', tk, rfl, fun b o e => hst b o (fun q => by have := none_keep Ks2.keep (hwr2 _ q); rw [this] at e; cases e) (fun q => by rw [q, sD] at e; cases e) (fun q => by rw [q, sL] at e; cases e) (k0 b o e)⟩,
          W.frame _ _ _ hJ.2 fun b hb o e => hst b o (fun q => (hok2 _ (W2.sub _ q)).2.2 hb) (fun q => hDf (q ▸ hb)) (fun q => hLf (q ▸ hb)) e⟩)
        (fun s'' hJ => base.keeps hJ.1.keep)
        (R := fun r s₅ => r = .ok .next ∧ ∃ m, m < ds.length + 1 - i ∧ ∃ i ys m', And7 (Ks s s₅) (St1 i s₅.heap) (s₅.heap.PlainList Da ys) (s₅.heap.Ns L m') (i ≤ ds.length) (m = ds.length + 1 - i) (DenL T s₅.heap ((ds.take i).flatMap fun d => (es d).map (f d)) ys.toList))
        (s₀ := s₆) (ys := ys) (m := m₂) (v := v) (h ▸ ⟨Ks2.trans K34, st₄⟩) (h ▸ st2) (h ▸ l₄) (h ▸ n₄) mx (fun h => hdv.flat fd) (h ▸ d₄)
        (fun s₇ m₇ ys₇ hJ hl₇ hn₇ hd₇ => ⟨rfl, ds.length + 1 - (i + 1), by lia, i + 1, ys₇, m₇, hJ.1, hJ.2, hl₇, hn₇, hlt, rfl, by
          rw [List.take_add_one, hd, List.flatMap_append]; simpa using hd₇⟩)
      exact start_in (prog := C.prog) (w := C.w) (inner _ rfl) (W2.self 0 _ _ _ st2 (inner _ rfl))
    · have hin : i = ds.length := by lia
      subst hin
      refine W.done _ _ _ st' fun h₁ tk₁ hk₁ => ?_
      rw [List.take_length] at hd'
      refine hR _ m' ys ?_ (Ns.onto hn' fun o e => hk₁ _ o hLw e) (hl'.at fun o e => hk₁ _ o hDw e) (hd'.flat (flatG _))
      obtain ⟨h₀, t₀, rfl, k0⟩ := hk
      exact ⟨h₁, tk₁, rfl, fun b o e => hk₁ b o (fun q => by rw [hwr _ q] at e; cases e) (k0 b o e)⟩
  exact codeAny_compStart_list (loop s₄ K4' st4 hlist hns) (W.self 0 s₄ _ _ st4 (loop s₄ K4' st4 hlist hns))
end Mine
end

/-! W10 -/
section
namespace Mine
variable {C : Cx} {N : List (Str × NameKind)} {ρ ρ' : List (Str × D)} {μ μ' : List (Str × List D)} {k : Nat} {Q : Post} {ss : List Stmt}

noncomputable def tabS : Str := ⟨#[9]⟩
noncomputable def runLens (x : Str) : List Int := (Txt.split x tabS).map fun r => (r.length : Int)
noncomputable def mostR (xs : List Str) : Int := 1 + maxL (xs.flatMap runLens)
noncomputable def colsR (xs : List Str) : List (List Int) := xs.map fun x => colsOf x (mostR xs)
noncomputable def bad (cs ds : List Int) : Bool := (cs.zip ds).any fun q => decide (q.1 ≥ q.2)
noncomputable def aboveOk (cols : List (List Int)) (i j : Nat) : Bool := (List.range (j - i)).all fun m => !bad (rowAt cols i) (rowAt cols (i + 1 + m))
noncomputable def aboveR (cols : List (List Int)) (j n : Nat) : List Nat := (List.range n).filter fun i => aboveOk cols i j
noncomputable def parR (cols : List (List Int)) (j : Nat) : Nat := (aboveR cols j j).getLast?.getD 0
noncomputable def parentsR (xs : List Str) (n : Nat) : List Int := (List.range n).map fun (j : Nat) => if j = 0 then 0 else (parR (colsR xs) j : Int)

theorem foldl_max_le {b : Int} : ∀ (xs : List Int) (a : Int), a ≤ b → (∀ x ∈ xs, x ≤ b) → xs.foldl max a ≤ b
  | [], a, h, _ => h
  | x :: xs, a, h, hx => foldl_max_le xs (max a x) (Int.max_le.mpr ⟨h, hx x List.mem_cons_self⟩) fun y hy => hx y (List.mem_cons_of_mem _ hy)
theorem maxL_le {b : Int} (xs : List Int) (hb : 0 ≤ b) (h : ∀ x ∈ xs, x ≤ b) : maxL xs ≤ b := by
  cases xs with
  | nil => exact hb
  | cons x xs => exact foldl_max_le xs x (h x List.mem_cons_self) fun y hy => h y (List.mem_cons_of_mem _ hy)
theorem foldl_max_ge : ∀ (xs : List Int) (a : Int), a ≤ xs.foldl max a ∧ ∀ x ∈ xs, x ≤ xs.foldl max a
  | [], a => ⟨Int.le_refl _, fun _ h => nomatch h⟩
  | x :: xs, a => by
    obtain ⟨h1, h2⟩ := foldl_max_ge xs (max a x)
    refine ⟨by simp only [List.foldl_cons]; lia, fun y hy => ?_⟩
    simp only [List.foldl_cons]
    rcases List.mem_cons.mp hy with rfl | hy
    · lia
    · exact h2 y hy
theorem maxL_ge {xs : List Int} {x : Int} (h : x ∈ xs) : x ≤ maxL xs := by
  cases xs with
  | nil => cases h
  | cons y ys =>
    obtain ⟨h1, h2⟩ := foldl_max_ge ys y
    rcases List.mem_cons.mp h with rfl | h
    · exact h1
    · exact h2 x h
theorem eqL_nil : ∀ (l : List D), eqL l [] = l.isEmpty
  | [] => rfl
  | _ :: _ => rfl
theorem not_filter_empty {α : Type} (p : α → Bool) (l : List α) : (!(l.filter p).isEmpty) = l.any p := by
  induction l with
  | nil => rfl
  | cons a l ih => cases h : p a <;> simp [h] at ih ⊢ <;> simp_all
theorem filter_empty {α : Type} (p : α → Bool) (l : List α) : (l.filter p).isEmpty = l.all fun a => !p a := by
  have := not_filter_empty p l
  rw [List.all_eq_not_any_not]
  simp only [Bool.not_not]
  rw [← this, Bool.not_not]
structure Tp10 (C : Cx) : Prop where
  tp : Tp2 C
  zip : C.G (Str.ofString "zip") = none ∧ C.B (Str.ofString "zip") = some (.type "zip")
  cols : C.G (Str.ofString "_law_columns") = some (.ref 172) ∧ Fn C 172 [Str.ofString "lead", Str.ofString "most"] (fnN 15) (fnB 15)
noncomputable def toS : D → Str | .str x => x | _ => ⟨#[]⟩
noncomputable def toN : D → Nat | .int i => i.toNat | _ => 0
theorem walk_parents (H : Tp10 C) {xs : List Str} (hn0 : 0 < xs.length) (hn1 : xs.length ≤ 10) (hx : ∀ x ∈ xs, x.length ≤ 20) (hp : ∀ j, 0 < j → j < xs.length → aboveR (colsR xs) j j ≠ []) :
    Sx C (fnN 16) ([Str.ofString "leads"].zip [.list (xs.map D.str)]) [] (k + 1) (fnB 16) ⟨fun _ _ => False, fun r => r = .list ((parentsR xs xs.length).map D.int), fun _ _ => False⟩ := by
  have hruns : ∀ r ∈ xs.flatMap runLens, 0 ≤ r ∧ r ≤ 20 := fun r hr => by
    obtain ⟨x, hxm, hr⟩ := List.mem_flatMap.mp hr
    obtain ⟨p, hp, rfl⟩ := List.mem_map.mp hr
    have h1 := part_short hp
    have h2 := hx x hxm
    lia
  have hne : xs.flatMap runLens ≠ [] := fun q => by
    obtain ⟨x, l, rfl⟩ := List.exists_cons_of_ne_nil (List.ne_nil_of_length_pos hn0)
    have h1 := split_pos x tabS
    have h2 := (List.append_eq_nil_iff.mp (by simpa only [List.flatMap_cons] using q)).1
    unfold runLens at h2
    rw [List.map_eq_nil_iff] at h2
    rw [h2] at h1
    exact absurd h1 (by decide)
  have hm0 : 1 ≤ mostR xs ∧ mostR xs ≤ 21 := by
    obtain ⟨r, l, e⟩ := List.exists_cons_of_ne_nil hne
    have h1 := hruns r (e ▸ List.mem_cons_self)
    have h2 := maxL_ge (x := r) (xs := xs.flatMap runLens) (e ▸ List.mem_cons_self)
    have h3 := maxL_le (b := 20) (xs.flatMap runLens) (by decide) fun x hx => (hruns x hx).2
    unfold mostR
    lia
  have hbound : (xs.flatMap runLens).length ≤ sizeLine := by
    have h1 : ∀ (l : List Str), (∀ x ∈ l, x.length ≤ 20) → (l.flatMap runLens).length ≤ 22 * l.length := by
      intro l
      induction l with
      | nil => intro _; simp
      | cons x l ih =>
        intro h
        have h2 := ih fun y hy => h y (List.mem_cons_of_mem _ hy)
        have h3 := split_le x tabS
        have h4 := h x List.mem_cons_self
        simp only [List.flatMap_cons, List.length_append, List.length_cons, runLens, List.length_map] at h2 ⊢
        lia
    have := h1 xs hx
    simp only [sizeLine]
    lia
  have e1 : ((xs.map D.str).flatMap fun d => ((Txt.split (toS d) tabS).map D.str).map fun e => D.int (toS e).length) = (xs.flatMap runLens).map D.int := by
    rw [List.flatMap_map, List.map_flatMap]
    congr 1
    funext x
    simp only [runLens, List.map_map]
    rfl
  have clen : Clv C (k + 1) (.builtin "len") [.list (xs.map D.str)] (.int xs.length) := by
    have := Clv.lenList (C := C) (k := k + 1) (xs := xs.map D.str) (by simp; lia)
    rwa [List.length_map] at this
  have hsxs : (xs.map D.str).length ≤ sizeLine := by rw [List.length_map]; show _ ≤ 2 ^ 24; lia
  refine Sx.assign (d := .int (mostR xs)) (Ex.bin Ex.int (Ex.callB (d := .int (maxL (xs.flatMap runLens))) (Vx.builtin rfl H.tp.max.1 H.tp.max.2) (EwL.cons (Ew.of ?_) EwL.nil) (Clv.max1 hne)) Bin.add) ?_
  · rw [← e1]
    refine Ex.comp2 (fun d => (Txt.split (toS d) tabS).map D.str) (fun _ e => D.int (toS e).length) (Ixw.list (Ew.of (Ex.name rfl)) (flat_strs _) hsxs) (fun d hd => ?_) (fun d hd e he => ?_) (fun _ _ => trivial) (by rw [e1, List.length_map]; exact hbound) (by decide)
    · obtain ⟨x, hxm, rfl⟩ := List.mem_map.mp hd
      have h1 := hx x hxm
      have h2 := split_le x tabS
      refine Ix.split (x := x) (y := tabS) (Ex.name rfl) rfl (show _ ≤ 2 ^ 24 by lia) ?_ (show _ ≤ 2 ^ 24 by lia)
      have e1 := StrLaws.occ_length_le x tabS 0 x.length (x.length + 1)
      rw [length_partsBetween]
      show _ ≤ 2 ^ 24
      lia
    · obtain ⟨x, hxm, rfl⟩ := List.mem_map.mp hd
      obtain ⟨r, hr, rfl⟩ := List.mem_map.mp he
      have h1 := part_short hr
      have h2 := hx x hxm
      simp only [toS] at h1
      exact Ex.callB (Vx.builtin rfl H.tp.len.1 H.tp.len.2) (EwL.cons (Ew.of (Ex.name rfl)) EwL.nil) (Clv.lenStr (x := r) (by lia))
  refine Sx.assign (Ex.comp1 (fun d => rowD (colsOf (toS d) (mostR xs))) (Ixw.list (Ew.of (Ex.name rfl)) (flat_strs _) hsxs) (fun d hd => ?_)) ?_ (by first | exact .inl rfl | exact .inr rfl) (fun env E => swaps_of E rfl)
  · obtain ⟨x, hxm, rfl⟩ := List.mem_map.mp hd
    have h1 := hx x hxm
    exact Ex.callF H.cols.2 (Vx.global rfl H.cols.1) (EwL.cons (Ew.of (Ex.name rfl)) (EwL.cons (Ew.of (Ex.name rfl)) EwL.nil)) (Clv.fn H.cols.2 rfl (walk_columns H.tp.tp (x := x) (most := mostR xs) (by lia) (by lia) (by lia)))
  have e2 : ((xs.map D.str).map fun d => rowD (colsOf (toS d) (mostR xs))) = (colsR xs).map rowD := by
    simp only [colsR, List.map_map]
    rfl
  rw [e2]
  have hcl : (colsR xs).length = xs.length := by simp [colsR]
  generalize hcols : colsR xs = cols at hcl hp
  have hrl : ∀ i : Nat, i < cols.length → (cols.map rowD)[i]? = some (rowD (rowAt cols i)) := fun i hi => by
    rw [List.getElem?_map, List.getElem?_eq_getElem hi]
    unfold rowAt
    rw [List.getElem?_eq_getElem hi]; rfl
  have hrw : ∀ i : Nat, i < cols.length → (rowAt cols i).length ≤ 21 := fun i hi => by
    subst hcols
    unfold rowAt colsR
    rw [List.getElem?_map, List.getElem?_eq_getElem (by rw [hcl] at hi; exact hi)]
    simp only [Option.map_some, Option.getD_some, colsOf, List.length_map, List.length_range]
    lia
  refine Sx.assignF (xs := (parentsR xs 1).map D.int) (Fx.list (ExL.cons Ex.int ExL.nil) rfl (show 1 ≤ sizeLine by decide)) ?_
  refine Sx.for_ (σ := Nat) (fun m st => st = m ∧ m < xs.length) (fun _ => [(Str.ofString "columns", .list (cols.map rowD)), (Str.ofString "leads", .list (xs.map D.str))]) (fun m => [(Str.ofString "parents", (parentsR xs (m + 1)).map D.int)]) (fun _ _ => False)
    (Ixo.range2 (Vx.builtin rfl H.tp.tp.range.1 H.tp.tp.range.2) Ex.int (Ex.callB (Vx.builtin rfl H.tp.len.1 H.tp.len.2) (EwL.cons (Ew.of (Ex.name rfl)) EwL.nil) clen) (by lia) (by lia) (by lia) (by lia) (by lia)) 0 ⟨rfl, hn0⟩ (SubE.cons rfl (SubE.cons rfl SubE.nil)) (SubE.cons rfl SubE.nil) ?_ ?_ (fun _ _ e => e.elim)
  · rintro idx d m hd ⟨rfl, hm⟩
    obtain ⟨rfl, hj⟩ := rangeD_get hd
    have hjn : m + 1 < xs.length := by lia
    rw [show (1 : Int) + (m : Int) = ((m + 1 : Nat) : Int) by lia]
    have hlast := hp (m + 1) (by lia) hjn
    generalize hJ : m + 1 = j at hjn hlast
    refine Sx.assignF (xs := []) (Fx.list ExL.nil) ?_
    refine Sx.for_ (σ := Nat) (fun i st => st = i ∧ i ≤ j) (fun _ => [(Str.ofString "j", .int j), (Str.ofString "columns", .list (cols.map rowD)), (Str.ofString "leads", .list (xs.map D.str))]) (fun i => [(Str.ofString "above", (aboveR cols j i).map fun (n : Nat) => D.int n), (Str.ofString "parents", (parentsR xs j).map D.int)]) (fun _ _ => False)
      (Ixo.range1 (Vx.builtin rfl H.tp.tp.range.1 H.tp.tp.range.2) (Ex.name rfl) (by lia) (by lia) (by lia)) 0 ⟨rfl, Nat.zero_le _⟩ (SubE.cons rfl (SubE.cons rfl (SubE.cons rfl SubE.nil))) (SubE.cons rfl (SubE.cons rfl SubE.nil)) ?_ ?_ (fun _ _ e => e.elim)
    · rintro idx d i hd ⟨rfl, hi⟩
      obtain ⟨rfl, hij⟩ := rangeD_get hd
      rw [Int.zero_add]
      have hij : i < j := by lia
      have hrow := hrw i (by lia)
      refine Sx.assignComp (fun d => bad (rowAt cols i) (rowAt cols (toN d))) (fun d => d) (Ixo.range2 (Vx.builtin rfl H.tp.tp.range.1 H.tp.tp.range.2) (Ex.bin (Ex.name rfl) Ex.int Bin.add) (Ex.bin (Ex.name rfl) Ex.int Bin.add) (by lia) (by lia) (by lia) (by lia) (by lia)) (fun d hd => ?_) (fun d hd _ => Ex.name rfl) (fun env E => swaps_of E rfl) ?_
      · obtain ⟨m', hm'⟩ := List.mem_iff_getElem?.mp hd
        obtain ⟨rfl, hm''⟩ := rangeD_get hm'
        rw [show (i : Int) + 1 + (m' : Int) = ((i + 1 + m' : Nat) : Int) by lia]
        have hk : i + 1 + m' < cols.length := by lia
        refine Ts.one ?_
        have hb : bad (rowAt cols i) (rowAt cols (toN (.int ((i + 1 + m' : Nat) : Int)))) = !eqL ((((rowAt cols i).zip (rowAt cols (i + 1 + m'))).filter fun q => decide (q.2 ≤ q.1)).map fun q => D.int q.1) [] := by
          rw [eqL_nil, List.isEmpty_map, not_filter_empty]
          rfl
        rw [hb]
        refine Tx.cmpW (Ew.of (Ex.compZip (xs := rowAt cols i) (ys := rowAt cols (i + 1 + m')) (fun x y => decide (y ≤ x)) (fun x _ => x) (Vx.builtin rfl H.zip.1 H.zip.2) ?_ ?_ (fun x y => .one (Tx.cmp (Ex.name rfl) (Ex.name rfl) Cmp.ge)) (fun x y => Ex.name rfl) (show _ ≤ 2 ^ 24 by lia) (by decide))) (Ew.of (Ex.list ExL.nil)) (Cmp.neList fun _ _ _ h => nomatch h)
        · exact Ew.sub (Ew.of (Ex.name rfl)) (Ew.of (Ex.name rfl)) (Get.list (by lia) (by lia) (by rw [Int.toNat_natCast]; exact hrl i (by lia)))
        · exact Ew.sub (Ew.of (Ex.name rfl)) (Ew.of (Ex.name rfl)) (Get.list (by lia) (by lia) (by rw [Int.toNat_natCast]; exact hrl _ hk))
      · have hA : eqL (((rangeD ((i : Int) + 1) ((j : Int) + 1)).filter fun d => bad (rowAt cols i) (rowAt cols (toN d))).map fun d => d) [] = aboveOk cols i j := by
          rw [eqL_nil, List.map_id', filter_empty]
          unfold rangeD aboveOk
          rw [List.all_map, show ((j : Int) + 1 - ((i : Int) + 1)).toNat = j - i by lia]
          congr 1
        have hnext : ∀ b, aboveOk cols i j = b → aboveR cols j (i + 1) = aboveR cols j i ++ (if b = true then [i] else []) := fun b hb => by
          unfold aboveR
          rw [List.range_succ, List.filter_append]
          congr 1
          cases b <;> simp [hb]
        refine Sx.if_ (c := aboveOk cols i j) (J := fun ρ' μ' => ∃ st', (st' = i + 1 ∧ i + 1 ≤ j) ∧ SubE [(Str.ofString "j", .int j), (Str.ofString "columns", .list (cols.map rowD)), (Str.ofString "leads", .list (xs.map D.str))] ρ' ∧ SubE [(Str.ofString "above", (aboveR cols j st').map fun (n : Nat) => D.int n), (Str.ofString "parents", (parentsR xs j).map D.int)] μ')
          (hA ▸ Tx.cmpW (Ew.of (Ex.name rfl)) (Ew.of (Ex.list ExL.nil)) (Cmp.eqList fun _ _ _ h => nomatch h)) (fun e => ?_) (fun e => ?_) (fun ρ' μ' h => Sx.nil ?_)
        · refine Sx.append rfl (fun d hd => by obtain ⟨n, _, rfl⟩ := List.mem_map.mp hd; trivial) (Ex.name rfl) trivial ?_ (Sx.nil ⟨i + 1, ⟨rfl, hij⟩, SubE.cons rfl (SubE.cons rfl (SubE.cons rfl SubE.nil)), SubE.cons ?_ (SubE.cons rfl SubE.nil)⟩)
          · have : (aboveR cols j i).length ≤ i := by unfold aboveR; exact Nat.le_trans (List.length_filter_le _ _) (by simp)
            rw [List.length_map]
            show _ ≤ 2 ^ 24
            lia
          · rw [hnext true e, List.map_append]; rfl
        · refine Sx.nil ⟨i + 1, ⟨rfl, hij⟩, SubE.cons rfl (SubE.cons rfl (SubE.cons rfl SubE.nil)), SubE.cons ?_ (SubE.cons rfl SubE.nil)⟩
          rw [hnext false e]
          simp only [Bool.false_eq_true, if_false, List.append_nil]
          rfl
        · obtain ⟨st', ⟨rfl, h1⟩, h2, h3⟩ := h
          exact ⟨i + 1, ⟨rfl, h1⟩, h2, h3⟩
    · rintro st ⟨rfl, _⟩
      have hl : (rangeD 0 (j : Int)).length = j := by simp [rangeD]
      rw [hl]
      obtain ⟨last, hlast'⟩ : ∃ n, (aboveR cols j j).getLast? = some n := by
        rw [List.getLast?_eq_some_getLast hlast]; exact ⟨_, rfl⟩
      have hal : (aboveR cols j j).length ≤ j := by unfold aboveR; exact Nat.le_trans (List.length_filter_le _ _) (by simp)
      have hap : 0 < (aboveR cols j j).length := List.length_pos_iff.mpr hlast
      refine Sx.append (d := .int last) rfl (flat_ints _) (Ex.ofFlat (Ew.sub (Ew.mut rfl) (Ew.of (Ex.neg Ex.int)) (Get.listNeg (by lia) (by rw [List.length_map]; lia) (by lia) ?_)) trivial) trivial (by rw [List.length_map]; show _ ≤ 2 ^ 24; simp [parentsR]; lia) (Sx.nil ⟨j, ⟨rfl, by lia⟩, SubE.cons rfl (SubE.cons rfl SubE.nil), SubE.cons ?_ SubE.nil⟩)
      · rw [List.length_map, List.getElem?_map, show (-1 + ((aboveR cols j j).length : Int)).toNat = (aboveR cols j j).length - 1 by lia, ← List.getLast?_eq_getElem?, hlast']; rfl
      · simp only [List.lookup_cons, beq_self_eq_true, Option.some.injEq]
        unfold parentsR
        rw [List.range_succ, List.map_append, List.map_append]
        simp only [List.map_cons, List.map_nil]
        rw [if_neg (by lia), hcols]
        unfold parR
        rw [hlast']; rfl
  · rintro m ⟨rfl, hm⟩
    have hl : (rangeD 1 (xs.length : Int)).length = xs.length - 1 := by simp [rangeD]
    refine Sx.retM rfl (flat_ints _) ?_
    show D.list _ = D.list _
    rw [hl, show xs.length - 1 + 1 = xs.length by lia]
end Mine
end

/-! W11 -/
section
namespace Mine
variable {C : Cx} {N : List (Str × NameKind)} {ρ ρ' : List (Str × D)} {μ μ' : List (Str × List D)} {k : Nat} {Q : Post} {ss : List Stmt} {mN : Str → Option Value}

theorem S_app (a b : List Nat) : S a ++ S b = S (a ++ b) := by show Str.mk _ = Str.mk _; simp [S]
theorem Ex.modN {l r : Expr} {pos : Pos} {a b : Nat} {i j : Int} (h1 : Ex C N ρ μ k l (.int i)) (h2 : Ex C N ρ μ k r (.int j)) (hi : i = a := by rfl) (hj : j = b := by rfl) (hb : 0 < b := by decide) : Ex C N ρ μ k (.BinOp l .Mod r pos) (.int ((a % b : Nat) : Int)) := by
  subst hi hj
  have := Ex.bin (C := C) (N := N) (ρ := ρ) (μ := μ) (k := k) (pos := pos) h1 h2 (Bin.mod (by lia))
  rwa [Int.fmod_eq_emod_of_nonneg _ (by lia), ← Int.natCast_emod] at this
theorem Ex.divN {l r : Expr} {pos : Pos} {a b : Nat} {i j : Int} (h1 : Ex C N ρ μ k l (.int i)) (h2 : Ex C N ρ μ k r (.int j)) (hi : i = a := by rfl) (hj : j = b := by rfl) (hb : 0 < b := by decide) (hb2 : b < 1073741824 := by decide) : Ex C N ρ μ k (.BinOp l .FloorDiv r pos) (.int ((a / b : Nat) : Int)) := by
  subst hi hj
  have := Ex.bin (C := C) (N := N) (ρ := ρ) (μ := μ) (k := k) (pos := pos) h1 h2 (Bin.fdiv (by lia) (PyProof.noPylong_small (by lia)))
  rwa [Int.fdiv_eq_ediv_of_nonneg _ (by lia), ← Int.natCast_ediv] at this

structure Row where
  lead : List Nat
  small : List Nat
  mark : List Nat
  price : Int
noncomputable def leadOf (old : List Nat) (q : Nat) : List Nat := ([old ++ [32], old ++ [9], 32 :: old, old ++ [32, 9]][q]?).getD []
noncomputable def markOf (k kind letter other : Nat) : List Nat := ([[65 + letter], [119808 + 52 * other + letter], [97 + letter, 65024 + k + 5 * other]][kind]?).getD []
noncomputable def rowOf (k : Nat) (old : List Nat) (y : Nat) : Row :=
  ⟨leadOf old (y / 60 % 4), [97 + (5 * (k - 1) + y / 720 % 5)], markOf k (y / 240 % 3) (5 * (k - 1) + y / 720 % 5) (y / 3600 % 3), if y / 240 % 3 = 0 then 1 else 2⟩
noncomputable def oldOf (rs : List Row) (i : Nat) : List Nat := (rs[i]?.map (·.lead)).getD []
noncomputable def rowStep (rs : List Row) (y : Nat) : List Row := rs ++ [rowOf rs.length (oldOf rs (y % 60 % rs.length)) y]
noncomputable def rowsR (ys : List Nat) : List Row := ys.foldl rowStep [⟨[], [], [], 0⟩]
noncomputable def drawsR (xs : List Int) : List Nat := (xs.take 5 ++ ([60, 601, 242, 62] : List Int).drop (xs.take 5).length).map fun x => (x % 1000000).toNat
theorem rowsR_snoc (ys : List Nat) (y : Nat) : rowsR (ys ++ [y]) = rowStep (rowsR ys) y := by simp [rowsR]
theorem rowsR_len (ys : List Nat) : (rowsR ys).length = ys.length + 1 := by
  unfold rowsR
  suffices h : ∀ (ys : List Nat) (rs : List Row), (ys.foldl rowStep rs).length = rs.length + ys.length by rw [h]; simp; lia
  intro ys
  induction ys with
  | nil => intro rs; simp
  | cons y ys ih => intro rs; simp only [List.foldl_cons, ih, List.length_cons]; simp [rowStep]; lia
theorem drawsR_len (xs : List Int) : 4 ≤ (drawsR xs).length ∧ (drawsR xs).length ≤ 5 := by
  unfold drawsR
  simp only [List.length_map, List.length_append, List.length_take, List.length_drop, List.length_cons, List.length_nil]
  lia
theorem drawsR_lt (xs : List Int) : ∀ y ∈ drawsR xs, y < 1000000 := fun y hy => by
  obtain ⟨x, _, rfl⟩ := List.mem_map.mp hy
  lia

noncomputable def toI : D → Int | .int i => i | _ => 0
structure Tp11 (C : Cx) (mN : Str → Option Value) : Prop where
  t4 : Tp4 C
  t6 : Tp6 C
  t8 : Tp8 C mN
  t10 : Tp10 C
  chr : C.G (Str.ofString "chr") = none ∧ C.B (Str.ofString "chr") = some (.builtin "chr")
  ws : C.G (Str.ofString "Whitespace") = some (.ref wsC)
  lev : C.G (Str.ofString "_levenshtein_distance") = some (.ref 165) ∧ Fn C 165 [Str.ofString "a", Str.ofString "b", Str.ofString "max_cost"] (fnN 13) (fnB 13)
  parents : C.G (Str.ofString "_law_parents") = some (.ref 177) ∧ Fn C 177 [Str.ofString "leads"] (fnN 16) (fnB 16)
  turned : C.G (Str.ofString "_law_turned") = some (.ref 182) ∧ Fn C 182 [Str.ofString "parents", Str.ofString "prices"] (fnN 17) (fnB 17)
  b1 : C.G (Str.ofString "in_table_b1") = some (.ref 105) ∧ Fn C 105 [Str.ofString "code"] (fnN 5) (fnB 5)
  b3 : C.G (Str.ofString "map_table_b3") = some (.ref 151) ∧ Fn C 151 [Str.ofString "code"] (fnN 7) (fnB 7)

noncomputable def leadsD (rs : List Row) : List D := rs.map fun r => .str (S r.lead)
noncomputable def smallD (rs : List Row) : List D := rs.map fun r => .str (S r.small)
noncomputable def markD (rs : List Row) : List D := rs.map fun r => .str (S r.mark)
noncomputable def priceD (rs : List Row) : List D := rs.map fun r => .int r.price
theorem walk_law_draws (H : Tp11 C mN) {xs : List Int} (hlen : xs.length ≤ 63)
    (next : Sx C (fnN 18) [(Str.ofString "draws", .list ((drawsR xs).map fun (y : Nat) => D.int y))] [] (k + 3) ((fnB 18).drop 1) Q) :
    Sx C (fnN 18) ([Str.ofString "script"].zip [.list (xs.map D.int)]) [] (k + 3) (fnB 18) Q := by
  have hx1 : ((xs.map D.int).take 5).length = (xs.take 5).length := by simp
  have c1 : cutL (xs.map D.int) none (some 5) = (xs.take 5).map D.int := by
    unfold cutL
    simp only [loOf, hiOf, List.length_map, List.drop_zero]
    rw [← List.map_take]
    congr 1
    by_cases q : 5 ≤ xs.length
    · congr 1; split <;> lia
    · rw [List.take_of_length_le (by split <;> lia), List.take_of_length_le (by lia)]
  have l1 : (xs.take 5).length ≤ 5 := by rw [List.length_take]; lia
  have c2 : cutL ([60, 601, 242, 62].map D.int) (some ((xs.take 5).length : Int)) none = (([60, 601, 242, 62] : List Int).drop (xs.take 5).length).map D.int := by
    generalize (xs.take 5).length = n at l1
    obtain rfl | rfl | rfl | rfl | rfl | rfl : n = 0 ∨ n = 1 ∨ n = 2 ∨ n = 3 ∨ n = 4 ∨ n = 5 := by lia
    all_goals rfl
  have f1 : ∀ {ρ μ}, ρ.lookup (Str.ofString "script") = some (D.list (xs.map D.int)) → ∀ {p1 p2 p3 p4 kk}, Fx C (fnN 18) ρ μ (k + 3) (.Subscript (.Name (Str.ofString "script") p1) (.Slice none (some (.Constant (.int 5) kk p2)) none p3) p4) ((xs.take 5).map D.int) := fun h _ _ _ _ _ => by
    rw [← c1]
    exact Fx.slice (Ew.of (Ex.name h)) (flat_ints _) Px.none (Px.int Ex.int) (by rw [List.length_map]; show _ ≤ 2 ^ 24; lia)
  have clen : Clv C (k + 3) (.builtin "len") [.list ((xs.take 5).map D.int)] (.int (xs.take 5).length) := by
    have := Clv.lenList (C := C) (k := k + 3) (xs := (xs.take 5).map D.int) (by rw [List.length_map]; lia)
    rwa [List.length_map] at this
  have f2 : ∀ {ρ μ e p0 p1 p2 p3 p4 p5 p6 k1 k2 k3 k4}, Ex C (fnN 18) ρ μ (k + 3) e (.int (xs.take 5).length) → Fx C (fnN 18) ρ μ (k + 3) (.Subscript (.List [.Constant (.int 60) k1 p1, .Constant (.int 601) k2 p2, .Constant (.int 242) k3 p3, .Constant (.int 62) k4 p4] p0) (.Slice (some e) none none p5) p6) ((([60, 601, 242, 62] : List Int).drop (xs.take 5).length).map D.int) := fun h => by
    rw [← c2]
    exact Fx.slice (Ew.of (Ex.list (ExL.cons Ex.int (ExL.cons Ex.int (ExL.cons Ex.int (ExL.cons Ex.int ExL.nil)))))) (flat_ints [60, 601, 242, 62]) (Px.int h) Px.none (show 4 ≤ 2 ^ 24 by decide)
  have e1 : ((((xs.take 5).map D.int ++ (([60, 601, 242, 62] : List Int).drop (xs.take 5).length).map D.int).filter fun _ => true).map fun d => D.int ((toI d).fmod 1000000)) = (drawsR xs).map fun (y : Nat) => D.int y := by
    rw [List.filter_eq_self.mpr (fun _ _ => rfl), ← List.map_append]
    unfold drawsR
    rw [List.map_map, List.map_map]
    congr 1
    funext x
    simp only [Function.comp_apply, toI]
    rw [Int.fmod_eq_emod_of_nonneg _ (by decide), Int.toNat_of_nonneg (Int.emod_nonneg _ (by decide))]
  have hsz : ((xs.take 5).map D.int).length + ((([60, 601, 242, 62] : List Int).drop (xs.take 5).length).map D.int).length ≤ sizeLine := by
    simp only [List.length_map, List.length_drop, List.length_cons, List.length_nil]
    show _ ≤ 2 ^ 24
    lia
  refine Sx.assignComp (fun _ => true) (fun d => D.int ((toI d).fmod 1000000)) (Ixw.list (Ew.of (Fx.add (Ew.of (f1 rfl).ex) (Ew.of (f2 (Ex.callB (Vx.builtin rfl H.t6.tp.len.1 H.t6.tp.len.2) (EwL.cons (Ew.of (f1 rfl).ex) EwL.nil) clen)).ex) (flat_ints _) (flat_ints _) hsz).ex) (fun d hd => ?_) (by rw [List.length_append]; exact hsz)) (fun _ _ => .nil) (fun d hd _ => ?_) (fun env E => swaps_of E rfl) ?_
  · rw [← List.map_append] at hd; exact flat_ints _ d hd
  · rw [← List.map_append] at hd
    obtain ⟨x, _, rfl⟩ := List.mem_map.mp hd
    exact Ex.bin (Ex.name rfl) Ex.int (Bin.mod (by decide))
  · rw [e1]
    have key : ∀ tail, tail = (fnB 18).drop 1 → Sx C (fnN 18) [(Str.ofString "draws", .list ((drawsR xs).map fun (y : Nat) => D.int y))] [] (k + 3) tail Q := by intro tail e; rw [e]; assumption
    refine @Sx.weaken C (fnN 18) _ [(Str.ofString "draws", .list ((drawsR xs).map fun (y : Nat) => D.int y))] _ [] (k + 3) Q _ ?_ (SubE.cons ?_ SubE.nil) SubE.nil
    · with_reducible refine @key _ ?_
      kernel_rfl
    · simp only [List.lookup_cons, beq_self_eq_true]
end Mine
end

/-! W12 -/
section
namespace Mine
variable {C : Cx} {N : List (Str × NameKind)} {ρ ρ' : List (Str × D)} {μ μ' : List (Str × List D)} {k : Nat} {Q : Post} {ss : List Stmt} {mN : Str → Option Value}

noncomputable def rowsU (rs : List Row) : List (Str × List D) := [(Str.ofString "leads", leadsD rs), (Str.ofString "small", smallD rs), (Str.ofString "marked", markD rs), (Str.ofString "prices", priceD rs)]
theorem mod_lt63 {a b : Nat} (h : 0 < b) (hb : b < 1073741824) : ((a % b : Nat) : Int) < 2 ^ 63 := by
  have := Nat.mod_lt a h
  lia
theorem Ex.cast {e : Expr} {i j : Int} (h : Ex C N ρ μ k e (.int i)) (hij : i = j) : Ex C N ρ μ k e (.int j) := hij ▸ h
theorem Ex.chrN {f e : Expr} {pos : Pos} {n : Nat} (hf : Vx C N ρ μ k f (.builtin "chr")) (h : Ex C N ρ μ k e (.int (n : Int))) (hn : n ≤ 0x10FFFF)
    (h1 : ∀ env, eval (.Call f [e] [] pos) env = (do callWith pos (← eval f env) [] (backTo pos (starEach [e] env)) (backToKw pos (keywordEach [] env))) := by intro _; rfl)
    (h2 : ∀ env, starEach [e] env = (false, eval e env) :: starEach [] env := by intro _; rfl) : Ex C N ρ μ k (.Call f [e] [] pos) (.str (S [n])) :=
  Ex.callB hf (EwL.cons (Ew.of h) EwL.nil h2) (Clv.chr (by lia) (by lia)) h1 h2
theorem rowStep_lead {rs : List Row} {y m : Nat} (h : ∀ r ∈ rs, r.lead.length ≤ m) : ∀ r ∈ rowStep rs y, r.lead.length ≤ m + 2 := fun r hr => by
  rcases List.mem_append.mp hr with h1 | h1
  · have := h r h1; lia
  · rw [List.mem_singleton.mp h1]
    have ho : (oldOf rs (y % 60 % rs.length)).length ≤ m := by
      unfold oldOf
      cases e : rs[y % 60 % rs.length]? with
      | none => simp
      | some r' => exact h r' (List.mem_of_getElem? e)
    simp only [rowOf]
    generalize oldOf rs (y % 60 % rs.length) = old at ho
    unfold leadOf
    obtain q | q | q | q : y / 60 % 4 = 0 ∨ y / 60 % 4 = 1 ∨ y / 60 % 4 = 2 ∨ y / 60 % 4 = 3 := by lia
    all_goals (rw [q]; simp; lia)
theorem rowsR_lead : ∀ (ys : List Nat), ∀ r ∈ rowsR ys, r.lead.length ≤ 2 * ys.length := by
  suffices h : ∀ (ys : List Nat) (rs : List Row) (m : Nat), (∀ r ∈ rs, r.lead.length ≤ m) → ∀ r ∈ ys.foldl rowStep rs, r.lead.length ≤ m + 2 * ys.length by
    intro ys r hr
    have := h ys [⟨[], [], [], 0⟩] 0 (by simp) r hr
    lia
  intro ys
  induction ys with
  | nil => intro rs m h r hr; have := h r hr; lia
  | cons y ys ih =>
    intro rs m h r hr
    have := ih (rowStep rs y) (m + 2) (rowStep_lead h) r hr
    simp only [List.length_cons]
    lia
theorem walk_law_rows (H : Tp11 C mN) {ys : List Nat} (hy : ys.length ≤ 5) (hlt : ∀ y ∈ ys, y < 1000000)
    (next : Sx C (fnN 18) [] (rowsU (rowsR ys)) (k + 3) ((fnB 18).drop 3) Q) :
    Sx C (fnN 18) [(Str.ofString "draws", .list (ys.map fun (y : Nat) => D.int y))] [] (k + 3) ((fnB 18).drop 1) Q := by
  refine @Sx.assignTupF C (fnN 18) _ _ (k + 3) Q _ _ _ _ _ _ _ _ [leadsD (rowsR []), smallD (rowsR []), markD (rowsR []), priceD (rowsR [])] [(Str.ofString "leads", _), (Str.ofString "small", _), (Str.ofString "marked", _), (Str.ofString "prices", _)]
    (FxL.cons (Fx.list (ExL.cons Ex.str ExL.nil)) (FxL.cons (Fx.list (ExL.cons Ex.str ExL.nil)) (FxL.cons (Fx.list (ExL.cons Ex.str ExL.nil)) (FxL.cons (Fx.list (ExL.cons Ex.int ExL.nil)) FxL.nil)))) rfl (by decide) ?_ rfl ?_ (by intro _ _; rfl) (fun env E => swapped_of E rfl)
  · have key : ∀ tail, tail = (fnB 18).drop 3 → Sx C (fnN 18) [] (rowsU (rowsR ys)) (k + 3) tail Q := by intro tail e; rw [e]; assumption
    refine Sx.for_ (σ := List Row) (fun i st => st = rowsR (ys.take i)) (fun _ => []) rowsU (fun _ _ => False) (Ix.list (Ex.name rfl) (fun d hd => by obtain ⟨n, _, rfl⟩ := List.mem_map.mp hd; trivial) (by rw [List.length_map]; show _ ≤ 2 ^ 24; lia)) (rowsR []) rfl SubE.nil (SubE.cons rfl (SubE.cons rfl (SubE.cons rfl (SubE.cons rfl SubE.nil)))) ?_ ?_ (fun _ _ e => e.elim)
    · rintro i d st hd rfl
      rw [List.getElem?_map] at hd
      obtain ⟨y, hy', rfl⟩ := Option.map_eq_some_iff.mp hd
      have hi : i < ys.length := (List.getElem?_eq_some_iff.mp hy').1
      have hy6 := hlt y (List.mem_of_getElem? hy')
      have hnext : rowsR (ys.take (i + 1)) = rowStep (rowsR (ys.take i)) y := by rw [List.take_add_one, hy']; exact rowsR_snoc _ _
      rw [hnext]
      have hlen : (rowsR (ys.take i)).length = i + 1 := by rw [rowsR_len, List.length_take]; lia
      have hlead := rowsR_lead (ys.take i)
      have hli : (ys.take i).length = i := by rw [List.length_take]; lia
      rw [hli] at hlead
      generalize rowsR (ys.take i) = rs at hlen hlead ⊢
      have clen : Clv C (k + 3) (.builtin "len") [.list (leadsD rs)] (.int rs.length) := by
        have := Clv.lenList (C := C) (k := k + 3) (xs := leadsD rs) (by unfold leadsD; rw [List.length_map]; lia)
        unfold leadsD at this ⊢
        rwa [List.length_map] at this
      refine Sx.assign (d := .int rs.length) (Ex.callB (Vx.builtin rfl H.t6.tp.len.1 H.t6.tp.len.2) (EwL.cons (Ew.mut rfl) EwL.nil) clen) ?_
      have hidx : y % 60 % rs.length < rs.length := Nat.mod_lt _ (by lia)
      have hold : (oldOf rs (y % 60 % rs.length)).length ≤ 2 * i := by
        unfold oldOf
        rw [List.getElem?_eq_getElem hidx]
        exact hlead _ (List.getElem_mem hidx)
      refine Sx.assign (d := .str (S (oldOf rs (y % 60 % rs.length)))) (Ex.ofFlat (Ew.sub (Ew.mut rfl) (Ew.of (Ex.modN (Ex.modN (Ex.name rfl) Ex.int) (Ex.name rfl) rfl rfl (by lia))) (Get.list (Int.natCast_nonneg _) (Int.lt_of_lt_of_le (Int.ofNat_lt.mpr hidx) (by lia)) ?_)) trivial) ?_
      · rw [Int.toNat_natCast]
        unfold oldOf leadsD
        rw [List.getElem?_map, List.getElem?_eq_getElem hidx]; rfl
      generalize hO : oldOf rs (y % 60 % rs.length) = old at hold
      have hsz : (S old).length + 2 ≤ sizeLine := by rw [S_len]; show _ ≤ 2 ^ 24; lia
      have hq4 : y / 60 % 4 = 0 ∨ y / 60 % 4 = 1 ∨ y / 60 % 4 = 2 ∨ y / 60 % 4 = 3 := by lia
      refine Sx.append (d := .str (S (leadOf old (y / 60 % 4)))) rfl (fun d hd => by obtain ⟨n, _, rfl⟩ := List.mem_map.mp hd; trivial) (Ex.ofFlat (Ew.sub (Ew.of (Ex.list (ExL.cons (Ex.bin (Ex.name rfl) Ex.str (Bin.addStr (Nat.le_trans (Nat.add_le_add_left (by decide) _) hsz))) (ExL.cons (Ex.bin (Ex.name rfl) Ex.str (Bin.addStr (Nat.le_trans (Nat.add_le_add_left (by decide) _) hsz))) (ExL.cons (Ex.bin Ex.str (Ex.name rfl) (Bin.addStr (Nat.le_trans (Nat.le_of_eq (Nat.add_comm _ _)) (Nat.le_trans (Nat.add_le_add_left (by decide) _) hsz)))) (ExL.cons (Ex.bin (Ex.name rfl) Ex.str (Bin.addStr (Nat.le_trans (Nat.add_le_add_left (by decide) _) hsz))) ExL.nil)))) (show 4 ≤ 2 ^ 24 by decide))) (Ew.of (Ex.modN (Ex.divN (Ex.name rfl) Ex.int) Ex.int)) (Get.list (Int.natCast_nonneg _) (mod_lt63 (by decide) (by decide)) ?_)) trivial) trivial (by unfold leadsD; rw [List.length_map]; show _ ≤ 2 ^ 24; lia) ?_
      · rw [Int.toNat_natCast]
        unfold leadOf
        rcases hq4 with q | q | q | q
        all_goals rw [q]
        · show some (D.str (S old ++ S [32])) = some (D.str (S (old ++ [32])))
          rw [S_app]
        · show some (D.str (S old ++ S [9])) = some (D.str (S (old ++ [9])))
          rw [S_app]
        · show some (D.str (S [32] ++ S old)) = some (D.str (S ([32] ++ old)))
          rw [S_app]
        · show some (D.str (S old ++ S [32, 9])) = some (D.str (S (old ++ [32, 9])))
          rw [S_app]
      generalize hL : 5 * (rs.length - 1) + y / 720 % 5 = letter
      have hl25 : letter < 25 := by lia
      refine Sx.assignSw (ds := [.int ((y / 240 % 3 : Nat) : Int), .int (letter : Int), .int ((y / 3600 % 3 : Nat) : Int)]) [Str.ofString "kind", Str.ofString "letter", Str.ofString "other"] (ExL.cons (Ex.modN (Ex.divN (Ex.name rfl) Ex.int) Ex.int) (ExL.cons ?_ (ExL.cons (Ex.modN (Ex.divN (Ex.name rfl) Ex.int) Ex.int) ExL.nil))) rfl ?_ ?_ (show 3 ≤ 2 ^ 24 by decide) (fun env E => swapped_of E rfl)
      · refine Ex.cast (Ex.bin (Ex.bin Ex.int (Ex.bin (Ex.name rfl) Ex.int Bin.sub) (Bin.mul (mul_small (by lia)))) (Ex.modN (a := y / 720) (b := 5) (Ex.divN (a := y) (b := 720) (Ex.name rfl) Ex.int) Ex.int) Bin.add) (by lia)
      · generalize hK : y / 240 % 3 = kind
        generalize hOt : y / 3600 % 3 = other
        have hk3 : kind = 0 ∨ kind = 1 ∨ kind = 2 := by lia
        have ho3 : other ≤ 2 := by lia
        have flatMap_ : ∀ (g : Row → List Nat), ∀ d ∈ rs.map (fun r => D.str (S (g r))), Flat d := fun g d hd => by obtain ⟨n, _, rfl⟩ := List.mem_map.mp hd; trivial
        have lsz : ∀ (g : Row → D), (rs.map g).length ≤ sizeLine := fun g => by rw [List.length_map]; show _ ≤ 2 ^ 24; lia
        refine Sx.append (d := .str (S [97 + letter])) rfl (flatMap_ (·.small)) (Ex.chrN (Vx.builtin rfl H.chr.1 H.chr.2) (Ex.cast (Ex.bin Ex.int (Ex.name rfl) Bin.add) (by lia)) (by lia)) trivial (lsz _) ?_
        refine Sx.append (d := .str (S (markOf rs.length kind letter other))) rfl (flatMap_ (·.mark)) (Ex.ofFlat (Ew.sub (Ew.of (Ex.list (ExL.cons (Ex.chrN (n := 65 + letter) (Vx.builtin rfl H.chr.1 H.chr.2) (Ex.cast (Ex.bin Ex.int (Ex.name rfl) Bin.add) (by lia)) (by lia)) (ExL.cons (Ex.chrN (n := 119808 + 52 * other + letter) (Vx.builtin rfl H.chr.1 H.chr.2) (Ex.cast (Ex.bin (Ex.bin Ex.int (Ex.bin Ex.int (Ex.name rfl) (Bin.mul (mul_small (by lia)))) Bin.add) (Ex.name rfl) Bin.add) (by lia)) (by lia)) (ExL.cons (Ex.bin (Ex.chrN (n := 97 + letter) (Vx.builtin rfl H.chr.1 H.chr.2) (Ex.cast (Ex.bin Ex.int (Ex.name rfl) Bin.add) (by lia)) (by lia)) (Ex.chrN (n := 65024 + rs.length + 5 * other) (Vx.builtin rfl H.chr.1 H.chr.2) (Ex.cast (Ex.bin (Ex.bin Ex.int (Ex.name rfl) Bin.add) (Ex.bin Ex.int (Ex.name rfl) (Bin.mul (mul_small (by lia)))) Bin.add) (by lia)) (by lia)) (Bin.addStr (show 2 ≤ 2 ^ 24 by decide))) ExL.nil))) (show 3 ≤ 2 ^ 24 by decide))) (Ew.of (Ex.name rfl)) (Get.list (Int.natCast_nonneg _) (by lia) ?_)) trivial) trivial (lsz _) ?_
        · rw [Int.toNat_natCast]
          unfold markOf
          rcases hk3 with rfl | rfl | rfl
          all_goals rfl
        refine Sx.append (d := .int (if kind = 0 then 1 else 2)) rfl (fun d hd => by obtain ⟨n, _, rfl⟩ := List.mem_map.mp hd; trivial) (Ex.ifExp (Tx.cmp (Ex.name rfl) Ex.int Cmp.eq) (fun e => ?_) (fun e => ?_)) trivial (lsz _) ?_
        · have e : ((kind : Int) == 0) = true := e
          rw [if_pos (by simpa using e)]; exact Ex.int
        · have e : ((kind : Int) == 0) = false := e
          rw [if_neg (by simpa using e)]; exact Ex.int
        refine Sx.nil ⟨rowStep rs y, rfl, SubE.nil, ?_⟩
        have hrow : rowStep rs y = rs ++ [⟨leadOf old (y / 60 % 4), [97 + letter], markOf rs.length kind letter other, if kind = 0 then 1 else 2⟩] := by
          unfold rowStep rowOf
          rw [hO, hL, hK, hOt]
        rw [hrow]
        simp only [rowsU, leadsD, smallD, markD, priceD, List.map_append, List.map_cons, List.map_nil]
        exact SubE.cons rfl (SubE.cons rfl (SubE.cons rfl (SubE.cons rfl SubE.nil)))
      · intro x hx
        simp only [List.mem_cons, List.not_mem_nil, or_false] at hx
        rcases hx with rfl | rfl | rfl
        all_goals first | exact .inl rfl | exact .inr rfl
    · rintro st rfl
      rw [List.length_map, List.take_length]
      with_reducible refine @key _ ?_
      kernel_rfl
  · intro p hp
    simp only [List.mem_cons, List.not_mem_nil, or_false] at hp
    rcases hp with rfl | rfl | rfl | rfl
    all_goals first | exact .inl rfl | exact .inr rfl
end Mine
end

/-! W13 -/
section
namespace Mine
variable {C : Cx} {N : List (Str × NameKind)} {ρ ρ' : List (Str × D)} {μ μ' : List (Str × List D)} {k : Nat} {Q : Post} {ss : List Stmt} {mN : Str → Option Value}

theorem toN_nat (i : Nat) : toN (.int (i : Int)) = i := by simp [toN]
noncomputable def lineOf (rs : List Row) (i : Nat) : Ws := wsR ((rs[i]?.map fun r => r.lead ++ r.mark).getD [])
noncomputable def linesD (rs : List Row) : List D := (List.range rs.length).map fun i => .ws (lineOf rs i)
/-- the pile, its top ahead -/
noncomputable def popR (rs : List Row) (k : Nat) (rp : List Nat) : List Nat := rp.dropWhile fun i => !lessR (lineOf rs i) (lineOf rs k)
noncomputable def pileR (rs : List Row) : Nat → List Nat
  | 0 => []
  | k + 1 => k :: popR rs k (pileR rs k)
noncomputable def markAt (rs : List Row) (j : Nat) : List Nat := (rs[j]?.map (·.mark)).getD []
noncomputable def smallAt (rs : List Row) (j : Nat) : List Nat := (rs[j]?.map (·.small)).getD []
noncomputable def wordR (rs : List Row) (rp : List Nat) : List Nat := ((List.range (rs.length - 1)).map fun m => if (m + 1) ∈ rp then markAt rs (m + 1) else smallAt rs (m + 1)).flatten
noncomputable def wordsR (rs : List Row) (n : Nat) : List (List Nat) := (List.range n).map fun i => wordR rs (pileR rs (i + 1))
structure RowsOk (rs : List Row) : Prop where
  pos : 0 < rs.length
  most : rs.length ≤ 6
  lead : ∀ r ∈ rs, r.lead.length ≤ 10
  mark : ∀ r ∈ rs, r.mark.length ≤ 2
  small : ∀ r ∈ rs, r.small.length ≤ 1
theorem walk_law_lines (H : Tp11 C mN) {rs : List Row} (ok : RowsOk rs)
    (next : Sx C (fnN 18) [(Str.ofString "lines", .list (linesD rs)), (Str.ofString "size", .int rs.length)] ((Str.ofString "words", (wordsR rs 0).map fun w => D.str (S w)) :: (Str.ofString "pile", (pileR rs 0).reverse.map fun (n : Nat) => D.int n) :: rowsU rs) (k + 3) ((fnB 18).drop 6) Q) :
    Sx C (fnN 18) [] (rowsU rs) (k + 3) ((fnB 18).drop 3) Q := by
  have hm := ok.most
  have clen : Clv C (k + 3) (.builtin "len") [.list (leadsD rs)] (.int rs.length) := by
    have := Clv.lenList (C := C) (k := k + 3) (xs := leadsD rs) (by unfold leadsD; rw [List.length_map]; lia)
    unfold leadsD at this ⊢
    rwa [List.length_map] at this
  refine Sx.assign (d := .int rs.length) (Ex.callB (Vx.builtin rfl H.t6.tp.len.1 H.t6.tp.len.2) (EwL.cons (Ew.mut rfl) EwL.nil) clen) ?_
  refine Sx.assignComp (fun _ => true) (fun d => D.ws (lineOf rs (toN d))) (Ixo.range1 (Vx.builtin rfl H.t6.tp.tp.range.1 H.t6.tp.tp.range.2) (Ex.name rfl) (by lia) (by lia) (by lia)) (fun _ _ => .nil) (fun d hd _ => ?_) (fun env E => swaps_of E rfl) ?_
  · obtain ⟨i, hi⟩ := List.mem_iff_getElem?.mp hd
    obtain ⟨rfl, hi'⟩ := rangeD_get hi
    rw [Int.zero_add]
    have hin : i < rs.length := by lia
    have h1 := ok.lead _ (List.getElem_mem hin)
    have h2 := ok.mark _ (List.getElem_mem hin)
    have el : lineOf rs (toN (.int (i : Int))) = wsR (rs[i].lead ++ rs[i].mark) := by
      rw [toN_nat]
      unfold lineOf
      rw [List.getElem?_eq_getElem hin]; rfl
    rw [el]
    refine Ex.callCls (l := rs[i].lead ++ rs[i].mark) H.t8 (Vx.global rfl H.ws) (Ew.of ?_) (by rw [List.length_append]; lia)
    rw [← S_app]
    refine Ex.bin (Ex.ofFlat (Ew.sub (d' := .str (S rs[i].lead)) (Ew.mut rfl) (Ew.of (Ex.name rfl)) (Get.list (Int.natCast_nonneg _) (by lia) ?_)) trivial) (Ex.ofFlat (Ew.sub (d' := .str (S rs[i].mark)) (Ew.mut rfl) (Ew.of (Ex.name rfl)) (Get.list (Int.natCast_nonneg _) (by lia) ?_)) trivial) (Bin.addStr (by rw [S_len, S_len]; show _ ≤ 2 ^ 24; lia))
    · rw [Int.toNat_natCast]
      unfold leadsD
      rw [List.getElem?_map, List.getElem?_eq_getElem hin]; rfl
    · rw [Int.toNat_natCast]
      unfold markD
      rw [List.getElem?_map, List.getElem?_eq_getElem hin]; rfl
  have e1 : (((rangeD 0 (rs.length : Int)).filter fun _ => true).map fun d => D.ws (lineOf rs (toN d))) = linesD rs := by
    rw [List.filter_eq_self.mpr (fun _ _ => rfl)]
    unfold rangeD linesD
    rw [List.map_map, show ((rs.length : Int) - 0).toNat = rs.length by lia]
    congr 1
    funext i
    simp only [Function.comp_apply, toN, Int.zero_add, Int.toNat_natCast]
  rw [e1]
  have key : ∀ tail, tail = (fnB 18).drop 6 → Sx C (fnN 18) [(Str.ofString "lines", .list (linesD rs)), (Str.ofString "size", .int rs.length)] ((Str.ofString "words", (wordsR rs 0).map fun w => D.str (S w)) :: (Str.ofString "pile", (pileR rs 0).reverse.map fun (n : Nat) => D.int n) :: rowsU rs) (k + 3) tail Q := by intro tail e; rw [e]; assumption
  refine @Sx.assignTupF C (fnN 18) _ _ (k + 3) Q _ _ _ _ _ _ _ _ [[], []] [(Str.ofString "pile", _), (Str.ofString "words", _)] (FxL.cons (Fx.list ExL.nil) (FxL.cons (Fx.list ExL.nil) FxL.nil)) rfl (by decide) ?_ rfl ?_ (by intro _ _; rfl) (fun env E => swapped_of E rfl)
  · show Sx C (fnN 18) [(Str.ofString "lines", .list (linesD rs)), (Str.ofString "size", .int rs.length)] ((Str.ofString "words", (wordsR rs 0).map fun w => D.str (S w)) :: (Str.ofString "pile", (pileR rs 0).reverse.map fun (n : Nat) => D.int n) :: rowsU rs) (k + 3) _ Q
    with_reducible refine @key _ ?_
    kernel_rfl
  · intro p hp
    simp only [List.mem_cons, List.not_mem_nil, or_false] at hp
    rcases hp with rfl | rfl
    all_goals first | exact .inl rfl | exact .inr rfl
end Mine
end

/-! W14 -/
section
namespace Mine
variable {C : Cx} {N : List (Str × NameKind)} {ρ ρ' : List (Str × D)} {μ μ' : List (Str × List D)} {k : Nat} {Q : Post} {ss : List Stmt} {mN : Str → Option Value}

theorem lineOf_ok {rs : List Row} (ok : RowsOk rs) (i : Nat) : (lineOf rs i).Ok := by
  unfold lineOf
  refine wsR_ok ?_
  cases e : rs[i]? with
  | none => simp
  | some r =>
    have h1 := ok.lead r (List.mem_of_getElem? e)
    have h2 := ok.mark r (List.mem_of_getElem? e)
    simp only [Option.map_some, Option.getD_some, List.length_append]
    lia
theorem any_int (rp : List Nat) (j : Nat) : ((rp.reverse.map fun (n : Nat) => D.int n).any fun a => eqD a (.int (j : Int))) = decide (j ∈ rp) := by
  rw [List.any_map, List.any_reverse]
  induction rp with
  | nil => rfl
  | cons a rp ih =>
    rw [List.any_cons, ih]
    have : eqD (D.int (a : Int)) (D.int (j : Int)) = decide (j = a) := by
      simp only [eqD]
      by_cases q : j = a
      · subst q; simp
      · have : ((a : Int) == j) = false := by simp; lia
        rw [this]; simp [q]
    simp only [Function.comp_apply]
    rw [this]
    simp [List.mem_cons, Bool.decide_or]
theorem glue_nil : ∀ (l : List (List Nat)) (acc : Array Nat), (l.map S).foldl (fun acc p => acc ++ (⟨#[]⟩ : Str).cps ++ p.cps) acc = acc ++ l.flatten.toArray
  | [], acc => by simp
  | x :: l, acc => by
    simp only [List.map_cons, List.foldl_cons, List.flatten_cons]
    rw [glue_nil l]
    simp [S, Array.append_assoc]
theorem join_S (l : List (List Nat)) : Txt.join ⟨#[]⟩ (l.map S) = S l.flatten := by
  unfold Txt.join Builtin.Str.glued
  cases l with
  | nil => rfl
  | cons x l =>
    simp only [List.map_cons, List.drop_succ_cons, List.drop_zero, List.headD_cons]
    rw [glue_nil]
    show Str.mk _ = Str.mk _
    simp [S]
theorem Ex.joinS {o e : Expr} {pa pos : Pos} {l : List (List Nat)} (ho : Ex C N ρ μ k o (.str (Str.ofString ""))) (h : Ew C N ρ μ k e (.list ((l.map S).map D.str))) (hw : ((l.map S).map (·.length)).sum ≤ 16777216)
    (hline : (pa.endLine == pos.line) = true := by rfl) (hb : ∀ env, attributeBase o (Str.ofString "join") env (eval o env) = eval o env := by intro _; rfl) (hs : ∀ env, starEach [e] env = [(false, eval e env)] := by intro _; rfl) : Ex C N ρ μ k (.Call (.Attribute o (Str.ofString "join") pa) [e] [] pos) (.str (S l.flatten)) := by
  rw [← join_S]
  have e0 : Str.ofString "" = ⟨#[]⟩ := by decide +kernel
  rw [e0] at ho
  exact Ex.strMeth1 F.slot_str_join F.type_str_join ho h (Clv.join hw) hline hb hs
theorem sum_le {α : Type} (f : α → Nat) (b : Nat) : ∀ (l : List α), (∀ x ∈ l, f x ≤ b) → (l.map f).sum ≤ l.length * b
  | [], _ => by simp
  | x :: l, h => by
    have h1 := sum_le f b l fun y hy => h y (List.mem_cons_of_mem _ hy)
    have h2 := h x List.mem_cons_self
    simp only [List.map_cons, List.sum_cons, List.length_cons, Nat.add_mul, Nat.one_mul]
    lia
theorem markAt_len {rs : List Row} (ok : RowsOk rs) (j : Nat) : (markAt rs j).length ≤ 2 := by
  unfold markAt
  cases e : rs[j]? with
  | none => simp
  | some r => exact ok.mark r (List.mem_of_getElem? e)
theorem smallAt_len {rs : List Row} (ok : RowsOk rs) (j : Nat) : (smallAt rs j).length ≤ 1 := by
  unfold smallAt
  cases e : rs[j]? with
  | none => simp
  | some r => exact ok.small r (List.mem_of_getElem? e)
noncomputable def pileU (rs : List Row) (m : Nat) : List (Str × List D) := (Str.ofString "words", (wordsR rs m).map fun w => D.str (S w)) :: (Str.ofString "pile", (pileR rs m).reverse.map fun (n : Nat) => D.int n) :: rowsU rs
noncomputable def lawR (rs : List Row) : List (Str × D) := [(Str.ofString "lines", .list (linesD rs)), (Str.ofString "size", .int rs.length)]
theorem popR_cons {rs : List Row} {m i : Nat} {rp : List Nat} : popR rs m (i :: rp) = if lessR (lineOf rs i) (lineOf rs m) = true then i :: rp else popR rs m rp := by
  unfold popR
  rw [List.dropWhile_cons]
  cases lessR (lineOf rs i) (lineOf rs m) <;> simp
theorem popR_mem {rs : List Row} {m i : Nat} : ∀ {rp : List Nat}, i ∈ popR rs m rp → i ∈ rp := fun h => (List.dropWhile_sublist _).subset h
theorem pileR_lt {rs : List Row} : ∀ m, ∀ i ∈ pileR rs m, i < m
  | 0, i, h => by simp [pileR] at h
  | m + 1, i, h => by
    rcases List.mem_cons.mp h with rfl | h
    · lia
    · have := pileR_lt m i (popR_mem h); lia
theorem pileR_len {rs : List Row} : ∀ m, (pileR rs m).length ≤ m
  | 0 => by simp [pileR]
  | m + 1 => by
    have h1 := pileR_len (rs := rs) m
    have h2 : (popR rs m (pileR rs m)).length ≤ (pileR rs m).length := (List.dropWhile_sublist _).length_le
    simp only [pileR, List.length_cons]
    lia
noncomputable def goes (rs : List Row) (m : Nat) : List Nat → Bool
  | [] => false
  | i :: _ => !lessR (lineOf rs i) (lineOf rs m)
theorem linesD_get {rs : List Row} {i : Nat} (h : i < rs.length) : (linesD rs)[i]? = some (.ws (lineOf rs i)) := by
  unfold linesD
  rw [List.getElem?_map, List.getElem?_range h]; rfl
theorem walk_law_pile (H : Tp11 C mN) {rs : List Row} (ok : RowsOk rs) (next : Sx C (fnN 18) (lawR rs) (pileU rs rs.length) (k + 3) ((fnB 18).drop 7) Q) :
    Sx C (fnN 18) (lawR rs) (pileU rs 0) (k + 3) ((fnB 18).drop 6) Q := by
  have hm6 := ok.most
  have key : ∀ tail, tail = (fnB 18).drop 7 → Sx C (fnN 18) (lawR rs) (pileU rs rs.length) (k + 3) tail Q := by intro tail e; rw [e]; assumption
  have flatI : ∀ (l : List Nat), ∀ d ∈ l.map (fun (n : Nat) => D.int n), Flat d := fun l d hd => by obtain ⟨n, _, rfl⟩ := List.mem_map.mp hd; trivial
  refine Sx.for_ (σ := Nat) (fun i st => st = i ∧ i ≤ rs.length) (fun _ => lawR rs) (pileU rs) (fun _ _ => False) (Ixo.range1 (Vx.builtin rfl H.t6.tp.tp.range.1 H.t6.tp.tp.range.2) (Ex.name rfl) (by lia) (by lia) (by lia)) 0 ⟨rfl, Nat.zero_le _⟩ (sub_refl _) (sub_refl _) ?_ ?_ (fun _ _ e => e.elim)
  · rintro i d m hd ⟨rfl, _⟩
    obtain ⟨rfl, hi⟩ := rangeD_get hd
    rw [Int.zero_add]
    have hmn : m < rs.length := by lia
    obtain ⟨hmL, YL, ofL, hfL, hfcL⟩ := H.t8.tp.tp.less
    refine Sx.while_ (σ := List Nat) (fun n rp => n = rp.length ∧ popR rs m rp = popR rs m (pileR rs m) ∧ (∀ i ∈ rp, i < m) ∧ rp.length ≤ m) (fun _ => (Str.ofString "k", .int m) :: lawR rs) (fun rp => (Str.ofString "pile", rp.reverse.map fun (n : Nat) => D.int n) :: (Str.ofString "words", (wordsR rs m).map fun w => D.str (S w)) :: rowsU rs) (goes rs m) (pileR rs m).length (pileR rs m) ⟨rfl, rfl, pileR_lt m, pileR_len m⟩
      (SubE.cons rfl (SubE.cons rfl (SubE.cons rfl SubE.nil))) (SubE.cons rfl (SubE.cons rfl (SubE.cons rfl (SubE.cons rfl (SubE.cons rfl (SubE.cons rfl SubE.nil)))))) ?_ ?_ ?_
    · rintro n rp ⟨rfl, h1, h2, h3⟩
      cases rp with
      | nil =>
        have hb : goes rs m [] = ((!eqL (([] : List Nat).reverse.map fun (n : Nat) => D.int n) []) && true) := rfl
        rw [hb]
        exact Tx.and (AllTx.cons (Tx.cmpW (Ew.mut rfl) (Ew.of (Ex.list ExL.nil)) (Cmp.neList fun _ _ _ h => nomatch h)) fun h => by simp [eqL] at h)
      | cons i rp =>
        have him := h2 i List.mem_cons_self
        have hlen : ((i :: rp).reverse.map fun (n : Nat) => D.int n).length = rp.length + 1 := by simp
        have hg : ((i :: rp).reverse.map fun (n : Nat) => D.int n)[(-1 + (((i :: rp).reverse.map fun (n : Nat) => D.int n).length : Int)).toNat]? = some (.int (i : Int)) := by
          rw [hlen, show (-1 + ((rp.length + 1 : Nat) : Int)).toNat = rp.length by lia]
          simp
        have hb : goes rs m (i :: rp) = ((!eqL ((i :: rp).reverse.map fun (n : Nat) => D.int n) []) && ((!lessR (lineOf rs i) (lineOf rs m)) && true)) := by
          rw [eqL_nil, List.isEmpty_map, List.isEmpty_reverse]
          simp [goes]
        rw [hb]
        refine Tx.and (AllTx.cons (Tx.cmpW (Ew.mut rfl) (Ew.of (Ex.list ExL.nil)) (Cmp.neList fun _ _ _ h => nomatch h)) fun _ => AllTx.cons (Tx.not (Tx.bool (Ex.meth1 H.t8.tp.tp.cls YL hmL hfL hfcL (Ew.sub (d' := .ws (lineOf rs i)) (Ew.of (Ex.name rfl)) (Ew.sub (d' := .int (i : Int)) (Ew.mut rfl) (Ew.of (Ex.neg Ex.int)) (Get.listNeg (by lia) (by rw [hlen]; lia) (by lia) hg)) (Get.list (Int.natCast_nonneg _) (by lia) (by rw [Int.toNat_natCast]; exact linesD_get (by lia)))) (Ew.sub (d' := .ws (lineOf rs m)) (Ew.of (Ex.name rfl)) (Ew.of (Ex.name rfl)) (Get.list (Int.natCast_nonneg _) (by lia) (by rw [Int.toNat_natCast]; exact linesD_get hmn))) (Clv.fn YL rfl (walk_less H.t8.tp.tp (lineOf_ok ok i) (lineOf_ok ok m))) noObj_less rfl _))) fun _ => .nil)
    · rintro n rp ⟨rfl, h1, h2, h3⟩ hc
      cases rp with
      | nil => cases hc
      | cons i rp =>
        have hlen : rp.length + 1 ≤ m := by simpa using h3
        refine Sx.pop (xs := rp.reverse.map fun (n : Nat) => D.int n) (d := .int i) ?_ (flatI _) trivial (by rw [List.length_map, List.length_reverse]; show _ < 2 ^ 24; lia) ?_
        · simp only [List.lookup_cons, beq_self_eq_true, List.reverse_cons, List.map_append, List.map_cons, List.map_nil]
        refine Sx.nil ⟨rp.length, rp, by simp, ⟨rfl, ?_, fun j hj => h2 j (List.mem_cons_of_mem _ hj), by lia⟩, SubE.cons rfl (SubE.cons rfl (SubE.cons rfl SubE.nil)), SubE.cons rfl (SubE.cons rfl (SubE.cons rfl (SubE.cons rfl (SubE.cons rfl (SubE.cons rfl SubE.nil)))))⟩
        rw [← h1, popR_cons, if_neg]
        simpa [goes] using hc
    · rintro n rp ⟨rfl, h1, h2, h3⟩ hc
      have hrp : rp = popR rs m (pileR rs m) := by
        rw [← h1]
        cases rp with
        | nil => rfl
        | cons i rp =>
          rw [popR_cons, if_pos]
          simpa [goes] using hc
      subst hrp
      clear h1 hc
      have hpile : (popR rs m (pileR rs m)).reverse.map (fun (n : Nat) => D.int n) ++ [.int (m : Int)] = (pileR rs (m + 1)).reverse.map fun (n : Nat) => D.int n := by simp [pileR]
      refine Sx.append (d := .int (m : Int)) rfl (flatI _) (Ex.name rfl) trivial (by rw [List.length_map, List.length_reverse]; show _ ≤ 2 ^ 24; lia) ?_
      rw [hpile]
      have hwords : ((wordsR rs m).map fun w => D.str (S w)) ++ [.str (S (wordR rs (pileR rs (m + 1))))] = (wordsR rs (m + 1)).map fun w => D.str (S w) := by
        unfold wordsR
        rw [List.range_succ, List.map_append, List.map_append]; rfl
      refine Sx.append (d := .str (S (wordR rs (pileR rs (m + 1))))) rfl (fun d hd => by obtain ⟨n, _, rfl⟩ := List.mem_map.mp hd; trivial) ?_ trivial (by unfold wordsR; rw [List.length_map, List.length_map, List.length_range]; show _ ≤ 2 ^ 24; lia) ?_
      · have e2 : ((rangeD 1 (rs.length : Int)).map fun d => D.str (S (if toN d ∈ pileR rs (m + 1) then markAt rs (toN d) else smallAt rs (toN d)))) = (((List.range (rs.length - 1)).map fun j => if (j + 1) ∈ pileR rs (m + 1) then markAt rs (j + 1) else smallAt rs (j + 1)).map S).map D.str := by
          unfold rangeD
          rw [List.map_map, List.map_map, List.map_map, show ((rs.length : Int) - 1).toNat = rs.length - 1 by lia]
          congr 1
          funext j
          simp only [Function.comp_apply]
          rw [show (1 : Int) + (j : Int) = ((j + 1 : Nat) : Int) by lia, toN_nat]
        have hw : wordR rs (pileR rs (m + 1)) = ((List.range (rs.length - 1)).map fun j => if (j + 1) ∈ pileR rs (m + 1) then markAt rs (j + 1) else smallAt rs (j + 1)).flatten := rfl
        rw [hw]
        refine Ex.joinS ?_ ?_ ?_ ?_ ?_ ?_
        rotate_left 3
        · rfl
        · intro _; rfl
        · intro _; rfl
        · exact Ex.str
        refine Ew.of ?_
        rw [← e2]
        refine Ex.comp1 _ (Ixo.range2 (Vx.builtin rfl H.t6.tp.tp.range.1 H.t6.tp.tp.range.2) Ex.int (Ex.name rfl) (by lia) (by lia) (by lia) (by lia) (by lia)) (fun d hd => ?_)
        · obtain ⟨j, hj⟩ := List.mem_iff_getElem?.mp hd
          obtain ⟨rfl, hj'⟩ := rangeD_get hj
          rw [show (1 : Int) + (j : Int) = ((j + 1 : Nat) : Int) by lia, toN_nat]
          have hjn : j + 1 < rs.length := by lia
          refine Ex.ifExp (c := decide ((j + 1) ∈ pileR rs (m + 1))) (any_int _ _ ▸ Tx.cmpW (Ew.of (Ex.name rfl)) (Ew.mut rfl) (Cmp.inList fun a ha => by obtain ⟨n, _, rfl⟩ := List.mem_map.mp ha; rfl)) (fun e => ?_) (fun e => ?_)
          · rw [if_pos (of_decide_eq_true e)]
            refine Ex.ofFlat (Ew.sub (Ew.mut rfl) (Ew.of (Ex.name rfl)) (Get.list (Int.natCast_nonneg _) (by lia) ?_)) trivial
            rw [Int.toNat_natCast]
            unfold markD markAt
            rw [List.getElem?_map, List.getElem?_eq_getElem hjn]; rfl
          · rw [if_neg (of_decide_eq_false e)]
            refine Ex.ofFlat (Ew.sub (Ew.mut rfl) (Ew.of (Ex.name rfl)) (Get.list (Int.natCast_nonneg _) (by lia) ?_)) trivial
            rw [Int.toNat_natCast]
            unfold smallD smallAt
            rw [List.getElem?_map, List.getElem?_eq_getElem hjn]; rfl
        · rw [List.map_map, List.map_map]
          refine Nat.le_trans (sum_le _ 2 _ fun j _ => ?_) (by rw [List.length_range]; lia)
          simp only [Function.comp_apply]
          split
          · rw [S_len]; exact markAt_len ok _
          · rw [S_len]; exact Nat.le_trans (smallAt_len ok _) (by decide)
      · rw [hwords]
        exact Sx.nil ⟨m + 1, ⟨rfl, by lia⟩, SubE.cons rfl (SubE.cons rfl SubE.nil), SubE.cons rfl (SubE.cons rfl (SubE.cons rfl (SubE.cons rfl (SubE.cons rfl (SubE.cons rfl SubE.nil)))))⟩
  · rintro st ⟨rfl, _⟩
    have hl : (rangeD 0 (rs.length : Int)).length = rs.length := by simp [rangeD]
    rw [hl]
    with_reducible refine @key _ ?_
    kernel_rfl
end Mine
end

/-! W15 -/
section
namespace Mine
variable {C : Cx} {N : List (Str × NameKind)} {ρ ρ' : List (Str × D)} {μ μ' : List (Str × List D)} {k : Nat} {Q : Post} {ss : List Stmt} {mN : Str → Option Value}

noncomputable def plainR (w : List Nat) : List Nat := (w.filter fun c => !isSign c).map low
structure SignsOk (ws : List (List Nat)) : Prop where
  len : ∀ w ∈ ws, w.length ≤ 10
  sign : ∀ w ∈ ws, ∀ c ∈ w, isLetter c = true ∨ isSign c = true
theorem low_ok : ∀ c : Nat, isLetter c = true → c < 122 → Txt.lower (S [c]) = S [low c] := by
  have h : ∀ c : Fin 122, isLetter c.val = true → Txt.lower (S [c.val]) = S [low c.val] := by decide +kernel
  exact fun c h1 h2 => h ⟨c, h2⟩ h1
theorem signsD_S (w : List Nat) : signsD (S w) = w.map fun c => D.str (S [c]) := by simp [signsD, S]
noncomputable def toC : D → Nat | .str x => x.cps.toList.headD 0 | _ => 0
theorem toC_S (c : Nat) : toC (.str (S [c])) = c := by simp [toC, S]
noncomputable def wordsU (ws : List (List Nat)) (μ : List (Str × List D)) : List (Str × List D) := (Str.ofString "words", ws.map fun w => D.str (S w)) :: μ
theorem walk_law_plains (H : Tp11 C mN) {rs : List Row} (hn : rs.length ≤ 6) {ws : List (List Nat)} (hws : ws.length ≤ 6) (ok : SignsOk ws) (next : Sx C (fnN 18) ((Str.ofString "plains", .list ((ws.map plainR).map fun w => D.str (S w))) :: lawR rs) (wordsU ws (rowsU rs)) (k + 3) ((fnB 18).drop 8) Q) :
    Sx C (fnN 18) (lawR rs) (wordsU ws (rowsU rs)) (k + 3) ((fnB 18).drop 7) Q := by
  have key : ∀ tail, tail = (fnB 18).drop 8 → Sx C (fnN 18) ((Str.ofString "plains", .list ((ws.map plainR).map fun w => D.str (S w))) :: lawR rs) (wordsU ws (rowsU rs)) (k + 3) tail Q := by intro tail e; rw [e]; assumption
  have hflat : ∀ d ∈ ws.map fun w => D.str (S w), Flat d := fun d hd => by obtain ⟨n, _, rfl⟩ := List.mem_map.mp hd; trivial
  have hsz : (ws.map fun w => D.str (S w)).length ≤ sizeLine := by rw [List.length_map]; show _ ≤ 2 ^ 24; lia
  refine Sx.assignComp (fun _ => true) (fun d => .str (S (plainR (toS d).cps.toList))) (Ixw.list (Ew.mut rfl) hflat hsz) (fun _ _ => .nil) (fun d hd _ => ?_) (fun env E => swaps_of E rfl) ?_
  · obtain ⟨w, hw, rfl⟩ := List.mem_map.mp hd
    have hl := ok.len w hw
    have hsg := ok.sign w hw
    have e0 : plainR (toS (.str (S w))).cps.toList = ((w.filter fun c => !isSign c).map fun c => [low c]).flatten := by
      show plainR (S w).cps.toList = _
      have : (S w).cps.toList = w := by simp [S]
      rw [this]
      unfold plainR
      generalize w.filter _ = l
      induction l with
      | nil => rfl
      | cons a l ih => simp [ih]
    rw [e0]
    refine Ex.joinS ?_ ?_ ?_ ?_ ?_ ?_
    rotate_left 3
    · rfl
    · intro _; rfl
    · intro _; rfl
    · exact Ex.str
    · refine Ew.of ?_
      have e2 : ((signsD (S w)).filter fun d => !isSign (toC d)).map (fun d => D.str (S [low (toC d)])) = (((w.filter fun c => !isSign c).map fun c => [low c]).map S).map D.str := by
        rw [signsD_S, List.filter_map, List.map_map, List.map_map, List.map_map]
        simp only [Function.comp_def, toC_S]
      rw [← e2]
      refine Ex.comp _ _ (Ixo.str (Ex.name rfl) (by rw [S_len]; show _ ≤ 2 ^ 24; lia)) (fun d hd => ?_) (fun d hd hp => ?_)
      · rw [signsD_S] at hd
        obtain ⟨c, hc, rfl⟩ := List.mem_map.mp hd
        rw [toC_S]
        exact Ts.one (Tx.not (Tx.bool (Ex.callF H.b1.2 (Vx.global rfl H.b1.1) (EwL.cons (Ew.of (Ex.name rfl)) EwL.nil) (Clv.fn H.b1.2 rfl (walk_b1 H.t4 (hsg c hc))))))
      · rw [signsD_S] at hd
        obtain ⟨c, hc, rfl⟩ := List.mem_map.mp hd
        rw [toC_S] at hp ⊢
        have hlt : isLetter c = true := (hsg c hc).resolve_right fun q => by rw [q] at hp; cases hp
        exact Ex.callF H.b3.2 (Vx.global rfl H.b3.1) (EwL.cons (Ew.of (Ex.name rfl)) EwL.nil) (Clv.fn H.b3.2 rfl (walk_b3 H.t4 hlt (low_ok c hlt)))
    · rw [List.map_map, List.map_map]
      refine Nat.le_trans (sum_le _ 1 _ fun c _ => by simp [S_len]) ?_
      have := List.length_filter_le (fun c => !isSign c) w
      lia
  · have e3 : ((ws.map fun w => D.str (S w)).filter fun _ => true).map (fun d => D.str (S (plainR (toS d).cps.toList))) = (ws.map plainR).map fun w => D.str (S w) := by
      rw [List.filter_eq_self.mpr (fun _ _ => rfl), List.map_map, List.map_map]
      congr 1
    rw [e3]
    show Sx C (fnN 18) ((Str.ofString "plains", .list ((ws.map plainR).map fun w => D.str (S w))) :: lawR rs) (wordsU ws (rowsU rs)) (k + 3) _ Q
    with_reducible refine @key _ ?_
    kernel_rfl
end Mine
end

/-! W16 -/
section
namespace Mine
variable {C : Cx} {N : List (Str × NameKind)} {ρ ρ' : List (Str × D)} {μ μ' : List (Str × List D)} {k : Nat} {Q : Post} {ss : List Stmt} {mN : Str → Option Value}

noncomputable def smallAll (rs : List Row) : List Nat := (rs.map (·.small)).flatten
noncomputable def textsR (rs : List Row) (ws : List (List Nat)) : List (List Nat) := smallAll rs :: ws.drop 1
noncomputable def strsD (ws : List (List Nat)) : List D := ws.map fun w => D.str (S w)
theorem eqL_same (x : Str) : ∀ (n : Nat), eqL (List.replicate n (.str x)) (List.replicate n (.str x)) = true
  | 0 => rfl
  | n + 1 => by simp only [List.replicate_succ, eqL, eqL_same x n, Bool.and_true, eqD]; simp
set_option maxRecDepth 10000 in
theorem walk_law_texts (H : Tp11 C mN) {rs : List Row} (okr : RowsOk rs) {ws : List (List Nat)} (hws : ws.length = rs.length) (hp : ∀ w ∈ ws, plainR w = smallAll rs)
    (next : Sx C (fnN 18) ((Str.ofString "texts", .list (strsD (textsR rs ws))) :: lawR rs) (rowsU rs) (k + 3) ((fnB 18).drop 10) Q) :
    Sx C (fnN 18) ((Str.ofString "plains", .list ((ws.map plainR).map fun w => D.str (S w))) :: lawR rs) (wordsU ws (rowsU rs)) (k + 3) ((fnB 18).drop 8) Q := by
  have key : ∀ tail, tail = (fnB 18).drop 10 → Sx C (fnN 18) ((Str.ofString "texts", .list (strsD (textsR rs ws))) :: lawR rs) (rowsU rs) (k + 3) tail Q := by intro tail e; rw [e]; assumption
  have hm := okr.most
  have hpos := okr.pos
  have e1 : ((ws.map plainR).map fun w => D.str (S w)) = List.replicate rs.length (.str (S (smallAll rs))) := by
    rw [List.map_map, ← hws]
    refine List.eq_replicate_iff.mpr ⟨by simp, fun d hd => ?_⟩
    obtain ⟨w, hw, rfl⟩ := List.mem_map.mp hd
    simp only [Function.comp_apply]
    rw [hp w hw]
  rw [e1]
  have e2 : smallD rs = ((rs.map (·.small)).map S).map D.str := by unfold smallD; rw [List.map_map, List.map_map]; rfl
  have hb : (!eqL (List.replicate rs.length (.str (S (smallAll rs)))) (List.replicate (rs.length : Int).toNat (.str (S (smallAll rs))))) = false := by rw [Int.toNat_natCast, eqL_same]; rfl
  have hT : ∀ {N ρ μ t}, Tx C N ρ μ (k + 3) t (!eqL (List.replicate rs.length (.str (S (smallAll rs)))) (List.replicate (rs.length : Int).toNat (.str (S (smallAll rs))))) → Tx C N ρ μ (k + 3) t false := fun h => by rw [hb] at h; exact h
  refine Sx.ifLeave (c := false) ?_ (fun e => nomatch e) (fun _ => ?_)
  · refine hT (Tx.cmpW (Ew.of (Ex.name rfl)) (Ew.of (Fx.mul (d := .str (S (smallAll rs))) (Ew.of (Ex.list (ExL.cons ?_ ExL.nil) (show 1 ≤ 2 ^ 24 by decide))) (Ex.name rfl) trivial (by lia) (by lia)).ex) (Cmp.neList fun a ha b hb => ?_))
    · unfold smallAll
      refine Ex.joinS ?_ ?_ ?_ ?_ ?_ ?_
      rotate_left 3
      · rfl
      · intro _; rfl
      · intro _; rfl
      · exact Ex.str
      · rw [← e2]; exact Ew.mut rfl
      · rw [List.map_map, List.map_map]
        refine Nat.le_trans (sum_le _ 1 _ fun r hr => ?_) (by lia)
        simp only [Function.comp_apply]
        rw [S_len]; exact okr.small r hr
    · rw [(List.mem_replicate.mp ha).2, (List.mem_replicate.mp hb).2]; rfl
  have hpl : 0 < rs.length := hpos
  have c1 : cutL (ws.map fun w => D.str (S w)) (some 1) none = (ws.drop 1).map fun w => D.str (S w) := by
    unfold cutL
    simp only [loOf, hiOf, List.length_map]
    rw [show (max 0 (min (if (1 : Int) < 0 then 1 + (ws.length : Int) else 1) (ws.length : Int))).toNat = 1 by lia, ← List.map_drop, List.take_of_length_le (by simp)]
  have hflat : ∀ d ∈ ws.map fun w => D.str (S w), Flat d := fun d hd => by obtain ⟨n, _, rfl⟩ := List.mem_map.mp hd; trivial
  have hflat2 : ∀ d ∈ (ws.drop 1).map fun w => D.str (S w), Flat d := fun d hd => by obtain ⟨n, _, rfl⟩ := List.mem_map.mp hd; trivial
  have hrep : (List.replicate rs.length (D.str (S (smallAll rs))))[(-1 + ((List.replicate rs.length (D.str (S (smallAll rs)))).length : Int)).toNat]? = some (.str (S (smallAll rs))) := by
    rw [List.length_replicate, List.getElem?_replicate, if_pos (by lia)]
  refine Sx.assign (d := .list (strsD (textsR rs ws))) (Fx.add (xs := [.str (S (smallAll rs))]) (ys := (ws.drop 1).map fun w => D.str (S w)) (Ew.of (Ex.list (ExL.cons (Ex.ofFlat (Ew.sub (d' := .str (S (smallAll rs))) (Ew.of (Ex.name rfl)) (Ew.of (Ex.neg Ex.int)) (Get.listNeg (by lia) (by rw [List.length_replicate]; lia) (by lia) hrep)) trivial) ExL.nil) (show 1 ≤ 2 ^ 24 by decide))) (Ew.of (c1 ▸ (Fx.slice (Ew.mut rfl) hflat (Px.int Ex.int) Px.none (by rw [List.length_map]; show _ ≤ 2 ^ 24; lia)).ex)) (fun d hd => by rw [List.mem_singleton.mp hd]; trivial) hflat2 (by rw [List.length_map, List.length_drop]; show _ ≤ 2 ^ 24; simp only [List.length_cons, List.length_nil]; lia)).ex ?_
  refine @Sx.weaken C (fnN 18) _ ((Str.ofString "texts", .list (strsD (textsR rs ws))) :: lawR rs) _ (rowsU rs) (k + 3) Q _ ?_ (SubE.cons ?_ (SubE.cons rfl (SubE.cons rfl SubE.nil))) (SubE.cons rfl (SubE.cons rfl (SubE.cons rfl (SubE.cons rfl SubE.nil))))
  · with_reducible refine @key _ ?_
    kernel_rfl
  · simp only [List.lookup_cons, beq_self_eq_true]
end Mine
end

/-! W17 -/
section
namespace Mine
variable {C : Cx} {N : List (Str × NameKind)} {ρ ρ' : List (Str × D)} {μ μ' : List (Str × List D)} {k : Nat} {Q : Post} {ss : List Stmt} {mN : Str → Option Value}

noncomputable def textAt (ts : List (List Nat)) (i : Nat) : List Nat := ts[i]?.getD []
noncomputable def halfRow (ts : List (List Nat)) (i : Nat) : List Int := (List.range i).map fun j => levR (textAt ts i) (textAt ts j)
noncomputable def halfR (ts : List (List Nat)) (n : Nat) : List (List Int) := (List.range n).map (halfRow ts)
noncomputable def roadR (ts : List (List Nat)) (i j : Nat) : Int := if i = j then 0 else levR (textAt ts (max i j)) (textAt ts (min i j))
noncomputable def roadRow (ts : List (List Nat)) (n i : Nat) : List Int := (List.range n).map (roadR ts i)
noncomputable def roadsR (ts : List (List Nat)) (n : Nat) : List (List Int) := (List.range n).map (roadRow ts n)
theorem range_rows (n : Nat) (f : Nat → D) (g : D → D) (h : ∀ i : Nat, g (.int (i : Int)) = f i) : (rangeD 0 (n : Int)).map g = (List.range n).map f := by
  unfold rangeD
  rw [List.map_map, show ((n : Int) - 0).toNat = n by lia]
  congr 1
  funext i
  simp only [Function.comp_apply, Int.zero_add]
  exact h i
theorem rangeD_mem {n : Int} {d : D} (h : d ∈ rangeD 0 n) : ∃ i : Nat, d = .int (i : Int) ∧ (i : Int) < n := by
  obtain ⟨i, hi⟩ := List.mem_iff_getElem?.mp h
  obtain ⟨rfl, hi'⟩ := rangeD_get hi
  exact ⟨i, by rw [Int.zero_add], by lia⟩
theorem strsD_get {ts : List (List Nat)} {i : Nat} (h : i < ts.length) : (strsD ts)[i]? = some (.str (S (textAt ts i))) := by
  unfold strsD textAt
  rw [List.getElem?_map, List.getElem?_eq_getElem h]; rfl
structure TextsOk (ts : List (List Nat)) : Prop where
  len : ∀ i, (textAt ts i).length ≤ 10
  low : ∀ i, ∀ c ∈ textAt ts i, Builtin.Str.tooLong (Txt.lower (S [c])).length = false
theorem walk_law_half (H : Tp11 C mN) {rs : List Row} (okr : RowsOk rs) {ts : List (List Nat)} (hts : ts.length = rs.length) (ok : TextsOk ts)
    (next : Sx C (fnN 18) ((Str.ofString "half", .list ((halfR ts rs.length).map rowD)) :: lawR rs) (rowsU rs) (k + 3) ((fnB 18).drop 11) Q) :
    Sx C (fnN 18) ((Str.ofString "texts", .list (strsD ts)) :: lawR rs) (rowsU rs) (k + 3) ((fnB 18).drop 10) Q := by
  have key : ∀ tail, tail = (fnB 18).drop 11 → Sx C (fnN 18) ((Str.ofString "half", .list ((halfR ts rs.length).map rowD)) :: lawR rs) (rowsU rs) (k + 3) tail Q := by intro tail e; rw [e]; assumption
  have hm := okr.most
  have e1 : (rangeD 0 (rs.length : Int)).map (fun d => rowD (halfRow ts (toN d))) = (halfR ts rs.length).map rowD := by
    unfold halfR
    rw [List.map_map]
    exact range_rows _ _ _ fun i => by rw [toN_nat]; rfl
  refine Sx.assign (Ex.comp1 (fun d => rowD (halfRow ts (toN d))) (Ixo.range1 (Vx.builtin rfl H.t6.tp.tp.range.1 H.t6.tp.tp.range.2) (Ex.name rfl) (by lia) (by lia) (by lia)) (fun d hd => ?_)) ?_ (by first | exact .inl rfl | exact .inr rfl) (fun env E => swaps_of E rfl)
  · obtain ⟨i, rfl, hi⟩ := rangeD_mem hd
    have e2 : D.list ((rangeD 0 (i : Int)).map fun e => D.int (levR (textAt ts i) (textAt ts (toN e)))) = rowD (halfRow ts (toN (.int (i : Int)))) := by
      rw [toN_nat]
      unfold rowD halfRow
      rw [List.map_map]
      congr 1
      exact range_rows _ _ _ fun j => by rw [toN_nat]; rfl
    rw [← e2]
    refine Ex.comp1 _ (Ixo.range1 (Vx.builtin rfl H.t6.tp.tp.range.1 H.t6.tp.tp.range.2) (Ex.name rfl) (by lia) (by lia) (by lia)) (fun e he => ?_)
    obtain ⟨j, rfl, hj⟩ := rangeD_mem he
    rw [toN_nat]
    refine Ex.callF H.lev.2 (Vx.global rfl H.lev.1) (EwL.cons (Ew.sub (Ew.of (Ex.name rfl)) (Ew.of (Ex.name rfl)) (Get.list (Int.natCast_nonneg _) (by lia) (by rw [Int.toNat_natCast]; exact strsD_get (by lia)))) (EwL.cons (Ew.sub (Ew.of (Ex.name rfl)) (Ew.of (Ex.name rfl)) (Get.list (Int.natCast_nonneg _) (by lia) (by rw [Int.toNat_natCast]; exact strsD_get (by lia)))) (EwL.cons (Ew.of Ex.int) EwL.nil))) (Clv.fn H.lev.2 rfl (walk_lev H.t6.tp (ok.len i) (ok.len j) fun c hc => ?_))
    rcases hc with h | h
    · exact ok.low _ c h
    · exact ok.low _ c h
  · rw [e1]
    refine @Sx.weaken C (fnN 18) _ ((Str.ofString "half", .list ((halfR ts rs.length).map rowD)) :: lawR rs) _ (rowsU rs) (k + 3) Q _ ?_ (SubE.cons ?_ (SubE.cons rfl (SubE.cons rfl SubE.nil))) (SubE.cons rfl (SubE.cons rfl (SubE.cons rfl (SubE.cons rfl SubE.nil))))
    · with_reducible refine @key _ ?_
      kernel_rfl
    · simp only [List.lookup_cons, beq_self_eq_true]
end Mine
end

/-! W18 -/
section
namespace Mine
variable {C : Cx} {N : List (Str × NameKind)} {ρ ρ' : List (Str × D)} {μ μ' : List (Str × List D)} {k : Nat} {Q : Post} {ss : List Stmt} {mN : Str → Option Value}

noncomputable def leadsS (rs : List Row) : List Str := rs.map fun r => S r.lead
noncomputable def pricesR (rs : List Row) : List Int := rs.map (·.price)
noncomputable def parsR (rs : List Row) : List Int := parentsR (leadsS rs) (leadsS rs).length
theorem halfR_get {ts : List (List Nat)} {n i : Nat} (h : i < n) : ((halfR ts n).map rowD)[i]? = some (rowD (halfRow ts i)) := by
  unfold halfR
  rw [List.map_map, List.getElem?_map, List.getElem?_range h]; rfl
theorem halfRow_get {ts : List (List Nat)} {i j : Nat} (h : j < i) : ((halfRow ts i).map D.int)[j]? = some (.int (levR (textAt ts i) (textAt ts j))) := by
  unfold halfRow
  rw [List.map_map, List.getElem?_map, List.getElem?_range h]; rfl
theorem walk_law_roads (H : Tp11 C mN) {rs : List Row} (okr : RowsOk rs) {ts : List (List Nat)} (hpar : ∀ j, 0 < j → j < (leadsS rs).length → aboveR (colsR (leadsS rs)) j j ≠ []) (tok : TOk (parsR rs) (pricesR rs))
    (next : Sx C (fnN 18) ((Str.ofString "whole", .int (pricesR rs).sum) :: (Str.ofString "turned", .list ((turnedR (parsR rs) (pricesR rs)).map rowD)) :: (Str.ofString "roads", .list ((roadsR ts rs.length).map rowD)) :: lawR rs) [] (k + 3) ((fnB 18).drop 14) Q) :
    Sx C (fnN 18) ((Str.ofString "half", .list ((halfR ts rs.length).map rowD)) :: lawR rs) (rowsU rs) (k + 3) ((fnB 18).drop 11) Q := by
  have key : ∀ tail, tail = (fnB 18).drop 14 → Sx C (fnN 18) ((Str.ofString "whole", .int (pricesR rs).sum) :: (Str.ofString "turned", .list ((turnedR (parsR rs) (pricesR rs)).map rowD)) :: (Str.ofString "roads", .list ((roadsR ts rs.length).map rowD)) :: lawR rs) [] (k + 3) tail Q := by intro tail e; rw [e]; assumption
  have hm := okr.most
  have e1 : (rangeD 0 (rs.length : Int)).map (fun d => rowD (roadRow ts rs.length (toN d))) = (roadsR ts rs.length).map rowD := by
    unfold roadsR
    rw [List.map_map]
    exact range_rows _ _ _ fun i => by rw [toN_nat]; rfl
  refine Sx.assign (Ex.comp1 (fun d => rowD (roadRow ts rs.length (toN d))) (Ixo.range1 (Vx.builtin rfl H.t6.tp.tp.range.1 H.t6.tp.tp.range.2) (Ex.name rfl) (by lia) (by lia) (by lia)) (fun d hd => ?_)) ?_ (by first | exact .inl rfl | exact .inr rfl) (fun env E => swaps_of E rfl)
  · obtain ⟨i, rfl, hi⟩ := rangeD_mem hd
    have e2 : D.list ((rangeD 0 (rs.length : Int)).map fun e => D.int (roadR ts i (toN e))) = rowD (roadRow ts rs.length (toN (.int (i : Int)))) := by
      rw [toN_nat]
      unfold rowD roadRow
      rw [List.map_map]
      congr 1
      exact range_rows _ _ _ fun j => by rw [toN_nat]; rfl
    rw [← e2]
    refine Ex.comp1 _ (Ixo.range1 (Vx.builtin rfl H.t6.tp.tp.range.1 H.t6.tp.tp.range.2) (Ex.name rfl) (by lia) (by lia) (by lia)) (fun e he => ?_)
    obtain ⟨j, rfl, hj⟩ := rangeD_mem he
    rw [toN_nat]
    refine Ex.ifExp (Tx.cmp (Ex.name rfl) (Ex.name rfl) Cmp.eq) (fun e => ?_) (fun e => ?_)
    · have e : ((i : Int) == (j : Int)) = true := e
      have : i = j := by have := eq_of_beq e; lia
      unfold roadR
      rw [if_pos this]; exact Ex.int
    · have e : ((i : Int) == (j : Int)) = false := e
      have hne : i ≠ j := fun q => by rw [q] at e; simp at e
      unfold roadR
      rw [if_neg hne]
      refine Ex.ofFlat (Ew.sub (Ew.sub (Ew.of (Ex.name rfl)) (Ew.of (Ex.cast (j := ((max i j : Nat) : Int)) (Ex.callB (Vx.builtin rfl H.t6.tp.max.1 H.t6.tp.max.2) (EwL.cons (Ew.of (Ex.name rfl)) (EwL.cons (Ew.of (Ex.name rfl)) EwL.nil)) Clv.max2) (by lia))) (Get.list (Int.natCast_nonneg _) (by lia) (by rw [Int.toNat_natCast]; exact halfR_get (by lia)))) (Ew.of (Ex.cast (j := ((min i j : Nat) : Int)) (Ex.callB (Vx.builtin rfl H.t6.tp.min.1 H.t6.tp.min.2) (EwL.cons (Ew.of (Ex.name rfl)) (EwL.cons (Ew.of (Ex.name rfl)) EwL.nil)) Clv.min2) (by lia))) (Get.list (Int.natCast_nonneg _) (by lia) (by rw [Int.toNat_natCast]; exact halfRow_get (by lia)))) trivial
  rw [e1]
  have hll : (leadsS rs).length = rs.length := by simp [leadsS]
  have hpos := okr.pos
  have cpar : Clv C (k + 3) (.ref 177) [.list (leadsD rs)] (.list ((parsR rs).map D.int)) := by
    have e : leadsD rs = (leadsS rs).map D.str := by unfold leadsD leadsS; rw [List.map_map]; rfl
    rw [e]
    exact Clv.fn H.parents.2 rfl (walk_parents H.t10 (by lia) (by lia) (fun x hx => by
      obtain ⟨r, hr, rfl⟩ := List.mem_map.mp hx
      rw [S_len]
      have := okr.lead r hr
      lia) hpar)
  have ctur : Clv C (k + 3) (.ref 182) [.list ((parsR rs).map D.int), .list (priceD rs)] (.list ((turnedR (parsR rs) (pricesR rs)).map rowD)) := by
    have e : priceD rs = (pricesR rs).map D.int := by unfold priceD pricesR; rw [List.map_map]; rfl
    rw [e]
    exact Clv.fn H.turned.2 rfl (walk_turned H.t6 tok)
  have csum : Clv C (k + 3) (.builtin "sum") [.list (priceD rs)] (.int (pricesR rs).sum) := by
    have e : priceD rs = (pricesR rs).map D.int := by unfold priceD pricesR; rw [List.map_map]; rfl
    rw [e]
    exact Clv.sum
  refine Sx.assign (Ex.callF H.turned.2 (Vx.global rfl H.turned.1) (EwL.cons (Ew.of (Ex.callF H.parents.2 (Vx.global rfl H.parents.1) (EwL.cons (Ew.mut rfl) EwL.nil) cpar)) (EwL.cons (Ew.mut rfl) EwL.nil)) ctur) ?_
  refine Sx.assign (Ex.callB (Vx.builtin rfl H.t6.sum.1 H.t6.sum.2) (EwL.cons (Ew.mut rfl) EwL.nil) csum) ?_
  refine @Sx.weaken C (fnN 18) _ ((Str.ofString "whole", .int (pricesR rs).sum) :: (Str.ofString "turned", .list ((turnedR (parsR rs) (pricesR rs)).map rowD)) :: (Str.ofString "roads", .list ((roadsR ts rs.length).map rowD)) :: lawR rs) _ [] (k + 3) Q _ ?_ (SubE.cons ?_ (SubE.cons ?_ (SubE.cons ?_ (SubE.cons rfl (SubE.cons rfl SubE.nil))))) SubE.nil
  · with_reducible refine @key _ ?_
    kernel_rfl
  · simp only [List.lookup_cons, beq_self_eq_true]
  · rfl
  · rfl
end Mine
end

/-! W19 -/
section
namespace Mine
variable {C : Cx} {N : List (Str × NameKind)} {ρ ρ' : List (Str × D)} {μ μ' : List (Str × List D)} {k : Nat} {Q : Post} {ss : List Stmt} {mN : Str → Option Value}

noncomputable def netR (rs : List Row) : List (List Int) := turnedR (parsR rs) (pricesR rs)
noncomputable def endR (rs : List Row) (ts : List (List Nat)) : List (Str × D) := (Str.ofString "whole", .int (pricesR rs).sum) :: (Str.ofString "turned", .list ((netR rs).map rowD)) :: (Str.ofString "roads", .list ((roadsR ts rs.length).map rowD)) :: lawR rs
noncomputable def sumR (rs : List Row) (ts : List (List Nat)) (i j : Nat) : Int := ((List.range rs.length).map fun m => roadR ts i m * get2 (netR rs) m j).sum
theorem parsR_len (rs : List Row) : (parsR rs).length = rs.length := by simp [parsR, parentsR, leadsS]
theorem netR_sq (rs : List Row) : Sq rs.length (netR rs) := by
  have h := parsR_len rs
  refine ⟨by simp [netR, turnedR, h], fun i hi => ?_⟩
  unfold rowAt netR turnedR
  simp only []
  rw [List.getElem?_map, List.getElem?_range (by rw [h]; exact hi)]
  simp [h]
theorem roadsR_get {ts : List (List Nat)} {n i : Nat} (h : i < n) : ((roadsR ts n).map rowD)[i]? = some (rowD (roadRow ts n i)) := by
  unfold roadsR
  rw [List.map_map, List.getElem?_map, List.getElem?_range h]; rfl
theorem roadRow_get {ts : List (List Nat)} {n i j : Nat} (h : j < n) : ((roadRow ts n i).map D.int)[j]? = some (.int (roadR ts i j)) := by
  unfold roadRow
  rw [List.map_map, List.getElem?_map, List.getElem?_range h]; rfl
theorem walk_law_end (H : Tp11 C mN) {rs : List Row} (okr : RowsOk rs) {ts : List (List Nat)} (hroad : ∀ i j, i < rs.length → j < rs.length → 0 ≤ roadR ts i j ∧ roadR ts i j ≤ 1000) (hwhole : 0 ≤ (pricesR rs).sum ∧ (pricesR rs).sum ≤ 100)
    (hsum : ∀ i j, i < rs.length → j < rs.length → sumR rs ts i j = if i = j then 4 * (pricesR rs).sum else 0) :
    Sx C (fnN 18) (endR rs ts) [] (k + 3) ((fnB 18).drop 14) ⟨fun _ _ => False, fun r => r = .bool true, fun _ _ => False⟩ := by
  have hm := okr.most
  refine Sx.for_ (σ := Unit) (fun _ _ => True) (fun _ => endR rs ts) (fun _ => []) (fun _ _ => False) (Ixo.range1 (Vx.builtin rfl H.t6.tp.tp.range.1 H.t6.tp.tp.range.2) (Ex.name rfl) (by lia) (by lia) (by lia)) () trivial (sub_refl _) SubE.nil ?_ ?_ (fun _ _ e => e.elim)
  · rintro idx d _ hd _
    obtain ⟨rfl, hi⟩ := rangeD_get hd
    rw [Int.zero_add]
    generalize idx = i at hi
    refine Sx.for_ (σ := Unit) (fun _ _ => True) (fun _ => (Str.ofString "i", .int i) :: endR rs ts) (fun _ => []) (fun _ _ => False) (Ixo.range1 (Vx.builtin rfl H.t6.tp.tp.range.1 H.t6.tp.tp.range.2) (Ex.name rfl) (by lia) (by lia) (by lia)) () trivial (sub_refl _) SubE.nil ?_ ?_ (fun _ _ e => e.elim)
    · rintro idx' d _ hd' _
      obtain ⟨rfl, hj⟩ := rangeD_get hd'
      rw [Int.zero_add]
      generalize idx' = j at hj
      have hij := hsum i j (by lia) (by lia)
      have hb : (sumR rs ts i j != (if i = j then 4 * (pricesR rs).sum else 0)) = false := by rw [hij]; simp
      have hT : ∀ {N ρ μ t}, Tx C N ρ μ (k + 3) t (sumR rs ts i j != (if i = j then 4 * (pricesR rs).sum else 0)) → Tx C N ρ μ (k + 3) t false := fun h => by rw [hb] at h; exact h
      refine Sx.ifLeave (c := false) ?_ (fun e => nomatch e) (fun _ => ?_)
      · refine hT (Tx.cmp (Ex.callB (Vx.builtin rfl H.t6.sum.1 H.t6.sum.2) (EwL.cons (Ew.of ?_) EwL.nil) Clv.sum) (Ex.ifExp (c := decide (i = j)) ?_ (fun e => ?_) (fun e => ?_)) Cmp.ne)
        · have e2 : (rangeD 0 (rs.length : Int)).map (fun e => D.int (roadR ts i (toN e) * get2 (netR rs) (toN e) j)) = ((List.range rs.length).map fun m => roadR ts i m * get2 (netR rs) m j).map D.int := by
            rw [List.map_map]
            exact range_rows _ _ _ fun m => by rw [toN_nat]; rfl
          rw [← e2]
          refine Ex.comp1 _ (Ixo.range1 (Vx.builtin rfl H.t6.tp.tp.range.1 H.t6.tp.tp.range.2) (Ex.name rfl) (by lia) (by lia) (by lia)) (fun e he => ?_)
          obtain ⟨m, rfl, hmm⟩ := rangeD_mem he
          rw [toN_nat]
          have hr := hroad i m (by lia) (by lia)
          refine Ex.bin (d₁ := .int (roadR ts i m)) (d₂ := .int (get2 (netR rs) (m : Int).toNat (j : Int).toNat)) (Ex.ofFlat (Ew.sub (Ew.sub (Ew.of (Ex.name rfl)) (Ew.of (Ex.name rfl)) (Get.list (Int.natCast_nonneg _) (by lia) (by rw [Int.toNat_natCast]; exact roadsR_get (by lia)))) (Ew.of (Ex.name rfl)) (Get.list (Int.natCast_nonneg _) (by lia) (by rw [Int.toNat_natCast]; exact roadRow_get (by lia)))) trivial) (Ew.get2 (netR_sq rs) (by lia) (Ew.of (Ex.name rfl)) (Ex.name rfl) (Ex.name rfl) (by lia) (by lia) (by lia) (by lia)) (Bin.mul (mul_smallL (by lia)))
        · have e3 : ((i : Int) == (j : Int)) = decide (i = j) := by
            by_cases q : i = j
            · subst q; simp
            · have : ((i : Int) == j) = false := by simp; lia
              rw [this]; simp [q]
          rw [← e3]
          exact Tx.cmp (Ex.name rfl) (Ex.name rfl) Cmp.eq
        · rw [if_pos (of_decide_eq_true e)]
          exact Ex.bin Ex.int (Ex.name rfl) (Bin.mul (mul_smallL (by decide)))
        · rw [if_neg (of_decide_eq_false e)]
          exact Ex.int
      · exact Sx.nil ⟨(), trivial, SubE.cons rfl (SubE.cons rfl (SubE.cons rfl (SubE.cons rfl (SubE.cons rfl (SubE.cons rfl SubE.nil))))), SubE.nil⟩
    · rintro _ _
      exact Sx.nil ⟨(), trivial, SubE.cons rfl (SubE.cons rfl (SubE.cons rfl (SubE.cons rfl (SubE.cons rfl SubE.nil)))), SubE.nil⟩
  · rintro _ _
    exact Sx.ret Ex.bool trivial rfl
end Mine
end

/-! W20 -/
section
namespace Mine
variable {C : Cx} {k : Nat} {mN : Str → Option Value}

noncomputable def rsOf (xs : List Int) : List Row := rowsR (drawsR xs)
noncomputable def wsOf (xs : List Int) : List (List Nat) := wordsR (rsOf xs) (rsOf xs).length
noncomputable def tsOf (xs : List Int) : List (List Nat) := textsR (rsOf xs) (wsOf xs)
/-- the plain law: all that the walk leaves to be shown of the drawn rows -/
structure LawFacts (xs : List Int) : Prop where
  rows : RowsOk (rsOf xs)
  signs : SignsOk (wsOf xs)
  plain : ∀ w ∈ wsOf xs, plainR w = smallAll (rsOf xs)
  texts : TextsOk (tsOf xs)
  par : ∀ j, 0 < j → j < (leadsS (rsOf xs)).length → aboveR (colsR (leadsS (rsOf xs))) j j ≠ []
  tok : TOk (parsR (rsOf xs)) (pricesR (rsOf xs))
  road : ∀ i j, i < (rsOf xs).length → j < (rsOf xs).length → 0 ≤ roadR (tsOf xs) i j ∧ roadR (tsOf xs) i j ≤ 1000
  sum : ∀ i j, i < (rsOf xs).length → j < (rsOf xs).length → sumR (rsOf xs) (tsOf xs) i j = if i = j then 4 * (pricesR (rsOf xs)).sum else 0
set_option maxHeartbeats 2000000 in
theorem walk_law (H : Tp11 C mN) {xs : List Int} (hlen : xs.length ≤ 63) (F : LawFacts xs) :
    Sx C (fnN 18) ([Str.ofString "script"].zip [.list (xs.map D.int)]) [] (k + 3) (fnB 18) ⟨fun _ _ => False, fun r => r = .bool true, fun _ _ => False⟩ := by
  have hws : (wsOf xs).length = (rsOf xs).length := by simp [wsOf, wordsR]
  have hpos := F.rows.pos
  have hmost := F.rows.most
  have hts : (tsOf xs).length = (rsOf xs).length := by
    show (smallAll _ :: (wsOf xs).drop 1).length = _
    rw [List.length_cons, List.length_drop, hws]; lia
  have hsum := F.tok.sum
  have s9 := @walk_law_end C k mN H (rsOf xs) F.rows (tsOf xs) F.road hsum F.sum
  have s8 := @walk_law_roads C k _ mN H (rsOf xs) F.rows (tsOf xs) F.par F.tok s9
  have s7 := @walk_law_half C k _ mN H (rsOf xs) F.rows (tsOf xs) hts F.texts s8
  have s6 := @walk_law_texts C k _ mN H (rsOf xs) F.rows (wsOf xs) hws F.plain s7
  have s5 := @walk_law_plains C k _ mN H (rsOf xs) hmost (wsOf xs) (by lia) F.signs s6
  have s5' := @Sx.weaken C (fnN 18) (lawR (rsOf xs)) (lawR (rsOf xs)) (pileU (rsOf xs) (rsOf xs).length) (wordsU (wsOf xs) (rowsU (rsOf xs))) (k + 3) _ _ s5 (sub_refl _) (SubE.cons rfl (SubE.cons rfl (SubE.cons rfl (SubE.cons rfl (SubE.cons rfl SubE.nil)))))
  have s4 := @walk_law_pile C k _ mN H (rsOf xs) F.rows s5'
  have s3 := @walk_law_lines C k _ mN H (rsOf xs) F.rows s4
  have s2 := @walk_law_rows C k _ mN H (drawsR xs) (drawsR_len xs).2 (drawsR_lt xs) s3
  exact @walk_law_draws C k _ mN H xs hlen s2
end Mine
end

/-! WRun -/
section
namespace Mine
mutual
/-- a big-step evaluator of trees, by fuel -/
noncomputable def wrun (den : Code → Sem Fin) (prog : Program) (w : World) : Nat → {α : Type} → Ctx → Pos → Sem α → Shared → Option (Except Value α × Pos × Shared)
  | 0, _, _, _, _, _ => none
  | n + 1, _, Γ, p, t, s => match t with
    | .pure a => some (.ok a, p, s)
    | .raise e => some (.error e, p, s)
    | .rule _ k => wrun den prog w n Γ p (k ()) s
    | .at p' k => wrun den prog w n Γ p' (k ()) s
    | .load a _ k => match s.heap.get? a with
      | some o => wrun den prog w n Γ p (k o) s
      | none => none
    | .update a _ f k => match (s.heap.get? a).isSome with
      | true => wrun den prog w n Γ p (k ()) ⟨s.heap.update a f, s.gens, s.drawn, s.toks, s.os⟩
      | false => none
    | .loadIfAlive a k => wrun den prog w n Γ p (k (s.heap.get? a)) s
    | .point _ k => wrun den prog w n Γ p (k ()) s
    | .alloc o k => wrun den prog w n Γ p (k s.heap.objs.size) ⟨s.heap.push o, s.gens, s.drawn, s.toks, s.os⟩
    | .fresh k => wrun den prog w n Γ p (k s.toks) ⟨s.heap, s.gens, s.drawn, s.toks + 1, s.os⟩
    | .ask k => wrun den prog w n Γ p (k ⟨prog, w.params⟩) s
    | .handled own k => wrun den prog w n Γ p (k (if own then Γ.own else Γ.handled)) s
    | .stack k => wrun den prog w n Γ p (k ((Γ.code, p) :: Γ.below)) s
    | .thread k => wrun den prog w n Γ p (k 0) s
    | .call c h _ _ k => match wcode den prog w n (Γ.enter c h p) p c s with
      | some (r, s') => wrun den prog w n Γ p (k r) s'
      | none => none
    | _ => none
noncomputable def wcode (den : Code → Sem Fin) (prog : Program) (w : World) : Nat → Ctx → Pos → Code → Shared → Option (Result × Shared)
  | 0, _, _, _, _ => none
  | n + 1, Γ, p, c, s => match wrun den prog w n Γ p (den c) s with
    | some (.ok (.done f), _, s') => some (.ok f, s')
    | some (.error e, _, s') => some (.error e, s')
    | some (.ok (.again c'), p', s') => match c'.quiet with
      | true => wcode den prog w n (Γ.goto c') p' c' s'
      | false => none
    | none => none
end
end Mine
end

/-! DictW -/
section
namespace Mine
/-! a long table of written ints and strs, made exactly -/
noncomputable abbrev DO (es : List DictEntry) : Obj := ⟨.type "dict", none, .dict ⟨es⟩ es.length, ⟨[]⟩⟩
noncomputable abbrev Hp (l : List Obj) (life : Life) : Heap := ⟨⟨l⟩, life⟩
theorem hp_get {l : List Obj} {life : Life} {i : Nat} {o : Obj} (h : l[i]? = some o) (hf : o.data ≠ .freed) : (Hp l life).get? i = some o := by
  show (match (⟨l⟩ : Array Obj)[i]? with | some ⟨_, _, .freed, _⟩ => none | o => o) = some o
  rw [show (⟨l⟩ : Array Obj)[i]? = some o from by simpa using h]
  obtain ⟨c, d, dt, sl⟩ := o
  cases dt <;> first | rfl | exact absurd rfl hf
theorem hp_push (l : List Obj) (life : Life) (o : Obj) : (Hp l life).push o = Hp (l ++ [o]) life := by
  show Heap.mk ((⟨l⟩ : Array Obj).push o) life = _
  simp [Hp]
theorem modify_at {α : Type} (f : α → α) (o : α) (l₂ : List α) : ∀ l₁ : List α, (l₁ ++ o :: l₂).modify l₁.length f = l₁ ++ f o :: l₂
  | [] => by simp
  | a :: l => by simp [modify_at f o l₂ l]
theorem hp_update (l₁ l₂ : List Obj) (o : Obj) (life : Life) (f : Obj → Obj) : (Hp (l₁ ++ o :: l₂) life).update l₁.length f = Hp (l₁ ++ f o :: l₂) life := by
  show Heap.mk ((⟨l₁ ++ o :: l₂⟩ : Array Obj).modify l₁.length f) life = _
  unfold Hp
  congr 1
  apply Array.ext'
  rw [Array.toList_modify]
  exact modify_at f o l₂ l₁
noncomputable def IntEs (es : List DictEntry) : Prop := ∀ e ∈ es, ∃ n t, e.key = .int n t ∧ e.hash = hashInt n
theorem IntEs.keys {prog : Program} {w : World} {es : List DictEntry} (h : IntEs es) : KeysOf (intKind prog w) ⟨es⟩ := fun e he => by
  obtain ⟨n, t, h1, h2⟩ := h e (by simpa using he)
  exact ⟨n, by rw [h1]; simp [intKind, Value.isInt], h2⟩
theorem IntEs.append {a b : List DictEntry} (x : IntEs a) (y : IntEs b) : IntEs (a ++ b) := fun e he => by
  rcases List.mem_append.mp he with h | h
  · exact x e h
  · exact y e h
noncomputable def NoKey (n : Int) (es : List DictEntry) : Prop := ∀ e ∈ es, Value.isInt n e.key = false
theorem NoKey.append {n : Int} {a b : List DictEntry} (x : NoKey n a) (y : NoKey n b) : NoKey n (a ++ b) := fun e he => by
  rcases List.mem_append.mp he with h | h
  · exact x e h
  · exact y e h
theorem keys_push (es : List DictEntry) (e : DictEntry) : Obj.mapDictKeys (·.push e) (DO es) = DO (es ++ [e]) := by
  simp [Obj.mapDictKeys]
theorem noFind {prog : Program} {w : World} {n : Int} {es : List DictEntry} (h : NoKey n es) : (⟨es⟩ : Array DictEntry).findIdx? (fun e => (intKind prog w).is n e.key) = none := by
  rw [Array.findIdx?_eq_none_iff]
  intro e he
  exact h e (by simpa using he)
section
variable {prog : Program} {w : World} {A : Around} {E : Value → Shared → Prop} {s : Shared} {l₁ l₂ : List Obj} {life : Life} {es : List DictEntry} {n : Int} {t : Tok} {v : Value}
theorem do_at (hh : s.heap = Hp (l₁ ++ DO es :: l₂) life) : s.heap.get? l₁.length = some (DO es) := by
  rw [hh]; exact hp_get (by simp) (by simp)
theorem put_new {Q : Unit → Shared → Prop} (hh : s.heap = Hp (l₁ ++ DO es :: l₂) life) (hI : IntEs es) (hn : NoKey n es) (hsz : es.length ≤ sizeLine)
    (hQ : Q () { s with heap := Hp (l₁ ++ DO (es ++ [⟨hashInt n, .int n t, v⟩]) :: l₂) life }) : wpAny (model prog w) A (dictPut l₁.length (hashInt n) (.int n t) v) Q E s := by
  unfold dictPut
  refine wpAny_bind (wpAny_dictFind_of (knd := intKind prog w) (k := n) (by simp [intKind, Value.isInt]) (do_at hh) rfl hI.keys ?_)
  rw [noFind hn]
  refine wpAny_updateDictKeys (do_at hh) rfl ?_ (by simpa using hsz) (by simp)
  rw [hh, hp_update, keys_push]; exact hQ
theorem set_new {Q : Unit → Shared → Prop} (hh : s.heap = Hp (l₁ ++ DO es :: l₂) life) (hI : IntEs es) (hn : NoKey n es) (hsz : es.length ≤ sizeLine)
    (hQ : Q () { s with heap := Hp (l₁ ++ DO (es ++ [⟨hashInt n, .int n t, v⟩]) :: l₂) life, toks := s.toks + 1 }) : wpAny (model prog w) A (dictSet l₁.length (.int n t) v) Q E s := by
  unfold dictSet
  try with_reducible refine wpAny_holding ?_
  refine wpAny_bind ((intKind prog w).pyHash (k := n) (by simp [intKind, Value.isInt]) ?_)
  unfold dictSetHashed
  try with_reducible refine wpAny_holding ?_
  have hh' : ({ s with toks := s.toks + 1 } : Shared).heap = Hp (l₁ ++ DO es :: l₂) life := hh
  refine wpAny_bind (wpAny_dictFind_of (s := { s with toks := s.toks + 1 }) (knd := intKind prog w) (k := n) (by simp [intKind, Value.isInt]) (do_at hh') rfl hI.keys ?_)
  rw [noFind hn]
  refine wpAny_bind (wpAny_rule ?_)
  refine wpAny_updateDictKeys (do_at hh') rfl ?_ (by simpa using hsz) (by simp)
  rw [hh', hp_update, keys_push]; exact hQ
end
/-- trees of written ints and strs -/
noncomputable def Shp (M : Model) : List (Sem Value × Sem Value) → List (Int × Str) → Prop
  | [], [] => True
  | (k, v) :: ps, (n, x) :: tab => (∀ (A : Around) (E : Value → Shared → Prop) (s : Shared) (Q : Value → Shared → Prop), Q (.int n s.toks) { s with toks := s.toks + 1 } → wpAny M A k Q E s) ∧
      (∀ (A : Around) (E : Value → Shared → Prop) (s : Shared) (Q : Value → Shared → Prop), Q (.str x s.toks) { s with toks := s.toks + 1 } → wpAny M A v Q E s) ∧ Shp M ps tab
  | _, _ => False
theorem Shp.append {M : Model} : ∀ {ps qs : List (Sem Value × Sem Value)} {tab tab' : List (Int × Str)}, Shp M ps tab → Shp M qs tab' → Shp M (ps ++ qs) (tab ++ tab')
  | [], qs, [], _, _, y => y
  | (k, v) :: ps, qs, (n, x) :: tab, _, ⟨a, b, c⟩, y => ⟨a, b, Shp.append c y⟩
  | [], _, _ :: _, _, x, _ => x.elim
  | _ :: _, _, [], _, x, _ => x.elim
theorem Shp.length {M : Model} : ∀ {ps : List (Sem Value × Sem Value)} {tab : List (Int × Str)}, Shp M ps tab → ps.length = tab.length
  | [], [], _ => rfl
  | (k, v) :: ps, (n, x) :: tab, ⟨_, _, c⟩ => by simp [Shp.length c]
  | [], _ :: _, x => x.elim
  | _ :: _, [], x => x.elim
/-- the entries, their tokens d by d from t on -/
noncomputable def entsL (d : Nat) : Nat → List (Int × Str) → List DictEntry
  | _, [] => []
  | t, (n, x) :: r => ⟨hashInt n, .int n t, .str x (t + 1)⟩ :: entsL d (t + d) r
theorem entsL_int (d : Nat) : ∀ (t : Nat) (tab : List (Int × Str)), IntEs (entsL d t tab)
  | _, [] => fun e he => by simp [entsL] at he
  | t, (n, x) :: r => fun e he => by
    simp only [entsL, List.mem_cons] at he
    rcases he with rfl | he
    · exact ⟨n, t, rfl, rfl⟩
    · exact entsL_int d _ r e he
theorem entsL_no (d : Nat) {n : Int} : ∀ (t : Nat) (tab : List (Int × Str)), n ∉ tab.map (·.1) → NoKey n (entsL d t tab)
  | _, [], _ => fun e he => by simp [entsL] at he
  | t, (m, x) :: r, h => fun e he => by
    simp only [List.map_cons, List.mem_cons, not_or] at h
    simp only [entsL, List.mem_cons] at he
    rcases he with rfl | he
    · simp only [Value.isInt]; exact beq_eq_false_iff_ne.mpr fun q => h.1 (by first | exact q.symm | exact q)
    · exact entsL_no d _ r h.2 e he
theorem entsL_len (d : Nat) : ∀ (t : Nat) (tab : List (Int × Str)), (entsL d t tab).length = tab.length
  | _, [] => rfl
  | t, (n, x) :: r => by simp [entsL, entsL_len d _ r]
theorem entsL_append (d : Nat) : ∀ (t : Nat) (a b : List (Int × Str)), entsL d t (a ++ b) = entsL d t a ++ entsL d (t + d * a.length) b
  | t, [], b => by simp [entsL]
  | t, (n, x) :: r, b => by
    simp only [List.cons_append, entsL, entsL_append d _ r b, List.length_cons]
    rw [show t + d + d * r.length = t + d * (r.length + 1) by rw [Nat.mul_add]; lia]
section
variable {prog : Program} {w : World} {A : Around} {E : Value → Shared → Prop} {l₁ l₂ : List Obj} {life : Life}
theorem fill_long : ∀ (ps : List (Sem Value × Sem Value)) (tab : List (Int × Str)) (es : List DictEntry) (s : Shared) (Q : PUnit → Shared → Prop), Shp (model prog w) ps tab → s.heap = Hp (l₁ ++ DO es :: l₂) life → IntEs es → (tab.map (·.1)).Nodup → (∀ n ∈ tab.map (·.1), NoKey n es) → es.length + tab.length ≤ sizeLine →
    Q PUnit.unit { s with heap := Hp (l₁ ++ DO (es ++ entsL 3 s.toks tab) :: l₂) life, toks := s.toks + 3 * tab.length } →
    wpAny (model prog w) A (forIn ps PUnit.unit fun (x : Sem Value × Sem Value) (_ : PUnit) => (do let kv ← x.1; let vv ← holding [kv] x.2; holding [kv, vv] (dictSet l₁.length kv vv); pure (ForInStep.yield PUnit.unit) : Sem (ForInStep PUnit))) Q E s
  | [], [], es, s, Q, _, hh, _, _, _, _, hQ => by
    rw [List.forIn_nil]
    refine wpAny_pure ?_
    simp only [entsL, List.append_nil, List.length_nil, Nat.mul_zero, Nat.add_zero] at hQ
    rw [← hh] at hQ
    exact hQ
  | (k, v) :: ps, (n, x) :: tab, es, s, Q, ⟨h1, h2, h3⟩, hh, hI, hnd, hno, hsz, hQ => by
    rw [List.forIn_cons]
    simp only [List.map_cons, List.nodup_cons, List.length_cons] at hnd hsz
    refine wpAny_bind (wpAny_bind (h1 _ _ _ _ ?_))
    refine wpAny_bind (wpAny_holding (h2 _ _ _ _ ?_))
    refine wpAny_bind (wpAny_holding (set_new (l₁ := l₁) (l₂ := l₂) (life := life) (es := es) hh hI (hno n (by simp)) (by lia) (wpAny_pure ?_)))
    refine fill_long ps tab (es ++ [⟨hashInt n, .int n s.toks, .str x (s.toks + 1)⟩]) _ Q h3 rfl (hI.append fun e he => ?_) hnd.2 (fun m hm => (hno m (by simp [hm])).append fun e he => ?_) (by simp; lia) ?_
    · simp only [List.mem_singleton] at he; subst he; exact ⟨n, _, rfl, rfl⟩
    · simp only [List.mem_singleton] at he; subst he; simp only [Value.isInt]; exact beq_eq_false_iff_ne.mpr fun q => hnd.1 (by first | exact q ▸ hm | exact q.symm ▸ hm)
    · simp only [entsL, List.length_cons] at hQ
      simp only [List.append_assoc, List.cons_append, List.nil_append]
      rw [show s.toks + 1 + 1 + 1 + 3 * tab.length = s.toks + 3 * (tab.length + 1) by lia, show s.toks + 1 + 1 + 1 = s.toks + 3 by lia]
      exact hQ
  | [], _ :: _, _, _, _, x, _, _, _, _, _, _ => x.elim
  | _ :: _, [], _, _, _, x, _, _, _, _, _, _ => x.elim
theorem fill_short : ∀ (ps : List (Sem Value × Sem Value)) (tab : List (Int × Str)) (s : Shared) (Q : List (Value × Value) → Shared → Prop), Shp (model prog w) ps tab →
    Q ((entsL 2 s.toks tab).map fun e => (e.key, e.val)) { s with toks := s.toks + 2 * tab.length } → wpAny (model prog w) A (evalPairs ps) Q E s
  | [], [], s, Q, _, hQ => wpAny_pure (by simpa [entsL] using hQ)
  | (k, v) :: ps, (n, x) :: tab, s, Q, ⟨h1, h2, h3⟩, hQ => by
    refine evalPairs_cons (h1 _ _ _ _ (h2 _ _ _ _ (fill_short ps tab _ _ h3 ?_)))
    simp only [entsL, List.length_cons, List.map_cons] at hQ
    rw [show s.toks + 1 + 1 = s.toks + 2 by lia, show s.toks + 2 + 2 * tab.length = s.toks + 2 * (tab.length + 1) by lia]
    exact hQ
  | [], _ :: _, _, _, x, _ => x.elim
  | _ :: _, [], _, _, x, _ => x.elim
theorem store_short : ∀ (tab : List (Int × Str)) (t : Nat) (es : List DictEntry) (s : Shared) (Q : PUnit → Shared → Prop), s.heap = Hp (l₁ ++ DO es :: l₂) life → IntEs es → (tab.map (·.1)).Nodup → (∀ n ∈ tab.map (·.1), NoKey n es) → es.length + tab.length ≤ sizeLine →
    Q PUnit.unit { s with heap := Hp (l₁ ++ DO (es ++ entsL 2 t tab) :: l₂) life, toks := s.toks + tab.length } →
    wpAny (model prog w) A (forIn ((entsL 2 t tab).map fun e => (e.key, e.val)) PUnit.unit fun (x : Value × Value) (_ : PUnit) => (do dictSet l₁.length x.1 x.2; pure (ForInStep.yield PUnit.unit) : Sem (ForInStep PUnit))) Q E s
  | [], t, es, s, Q, hh, _, _, _, _, hQ => by
    simp only [entsL, List.map_nil]
    rw [List.forIn_nil]
    refine wpAny_pure ?_
    simp only [entsL, List.append_nil, List.length_nil, Nat.add_zero] at hQ
    rw [← hh] at hQ
    exact hQ
  | (n, x) :: tab, t, es, s, Q, hh, hI, hnd, hno, hsz, hQ => by
    simp only [entsL, List.map_cons]
    rw [List.forIn_cons]
    simp only [List.map_cons, List.nodup_cons, List.length_cons] at hnd hsz
    refine wpAny_bind (wpAny_bind (set_new (l₁ := l₁) (l₂ := l₂) (life := life) (es := es) hh hI (hno n (by simp)) (by lia) (wpAny_pure ?_)))
    refine store_short tab (t + 2) (es ++ [⟨hashInt n, .int n t, .str x (t + 1)⟩]) _ Q rfl (hI.append fun e he => ?_) hnd.2 (fun m hm => (hno m (by simp [hm])).append fun e he => ?_) (by simp; lia) ?_
    · simp only [List.mem_singleton] at he; subst he; exact ⟨n, _, rfl, rfl⟩
    · simp only [List.mem_singleton] at he; subst he; simp only [Value.isInt]; exact beq_eq_false_iff_ne.mpr fun q => hnd.1 (by first | exact q ▸ hm | exact q.symm ▸ hm)
    · simp only [entsL, List.length_cons] at hQ
      simp only [List.append_assoc, List.cons_append, List.nil_append]
      rw [show s.toks + 1 + tab.length = s.toks + (tab.length + 1) by lia]
      exact hQ
end
section
variable {prog : Program} {w : World} {A : Around} {E : Value → Shared → Prop} {l₁ l₂ : List Obj} {life : Life}
theorem push_hh {s : Shared} {l : List Obj} (hh : s.heap = Hp l life) (o : Obj) : s.heap.push o = Hp (l ++ [o]) life := by rw [hh]; exact hp_push l life o
theorem size_hh {s : Shared} {l : List Obj} (hh : s.heap = Hp l life) : s.heap.objs.size = l.length := by rw [hh]; rfl
theorem DO_nil : (DO [] : Obj) = { cls := .type "dict", data := .dict #[] } := rfl
theorem sub_long {ps : List (Sem Value × Sem Value)} {tab : List (Int × Str)} {l : List Obj} {s : Shared} {Q : Addr → Shared → Prop} (hs : Shp (model prog w) ps tab) (hl : 15 < tab.length) (hsz : tab.length ≤ sizeLine) (hh : s.heap = Hp l life) (hnd : (tab.map (·.1)).Nodup)
    (hQ : Q l.length { s with heap := Hp (l ++ [DO (entsL 3 s.toks tab)]) life, toks := s.toks + 3 * tab.length }) : wpAny (model prog w) A (subDict ps) Q E s := by
  unfold subDict
  refine wpAny_bind (wpAny_alloc ?_)
  rw [size_hh hh, push_hh hh]
  refine wpAny_bind (wpAny_holding ?_)
  rw [if_neg (by rw [hs.length]; lia)]
  refine wpAny_bind (wpAny_rule ?_)
  have := fill_long (prog := prog) (w := w) (A := A) (E := E) (l₁ := l) (l₂ := []) (life := life) ps tab [] { s with heap := Hp (l ++ [DO []]) life } (fun _ s' => Q l.length s') hs rfl (fun e he => by simp at he) hnd (fun n _ e he => by simp at he) (by simpa using hsz) (by simpa using hQ)
  refine wpAny_bind (wpAny_mono this (fun _ s' h' => wpAny_pure (wpAny_pure h')) fun _ _ e => e)
theorem sub_short {ps : List (Sem Value × Sem Value)} {tab : List (Int × Str)} {l : List Obj} {s : Shared} {Q : Addr → Shared → Prop} (hs : Shp (model prog w) ps tab) (hl : tab.length ≤ 15) (hh : s.heap = Hp l life) (hnd : (tab.map (·.1)).Nodup)
    (hQ : Q l.length { s with heap := Hp (l ++ [DO (entsL 2 s.toks tab)]) life, toks := s.toks + 2 * tab.length + tab.length }) : wpAny (model prog w) A (subDict ps) Q E s := by
  unfold subDict
  refine wpAny_bind (wpAny_alloc ?_)
  rw [size_hh hh, push_hh hh]
  refine wpAny_bind (wpAny_holding ?_)
  rw [if_pos (by rw [hs.length]; lia)]
  refine wpAny_bind (fill_short ps tab _ _ hs ?_)
  refine wpAny_holding ?_
  have := store_short (prog := prog) (w := w) (A := A) (E := E) (l₁ := l) (l₂ := []) (life := life) tab s.toks [] { s with heap := Hp (l ++ [DO []]) life, toks := s.toks + 2 * tab.length } (fun _ s' => Q l.length s') rfl (fun e he => by simp at he) hnd (fun n _ e he => by simp at he) (by simp only [List.length_nil, sizeLine]; lia) (by simpa using hQ)
  refine wpAny_bind (wpAny_mono this (fun _ s' h' => wpAny_pure (wpAny_pure h')) fun _ _ e => e)
/-- entries as they are written -/
noncomputable def Plain (es : List DictEntry) : Prop := ∀ e ∈ es, ∃ n t, e.key = .int n t ∧ e.hash = hashInt n
theorem merge_loop {ea : List DictEntry} {em : List DictEntry} {f : Nat → PUnit → Sem (ForInStep PUnit)} {Q : PUnit → Shared → Prop} {s₀ : Shared} (hIa : IntEs ea) (hIm : IntEs em) (hsz : em.length + ea.length ≤ sizeLine)
    (hno : ∀ (i : Nat) e n t, ea[i]? = some e → e.key = .int n t → NoKey n (em ++ ea.take i))
    (hf : ∀ (i : Nat) (s : Shared) (e : DictEntry) (R : ForInStep PUnit → Shared → Prop), ea[i]? = some e → s.heap = Hp (l₁ ++ DO (em ++ ea.take i) :: (l₂ ++ [DO ea])) life →
      (∀ s', s'.heap = Hp (l₁ ++ DO (em ++ ea.take (i + 1)) :: (l₂ ++ [DO ea])) life → s' = { s with heap := s'.heap } → R (.yield PUnit.unit) s') → wpAny (model prog w) A (f i PUnit.unit) R E s) :
    ∀ (k i : Nat) (s : Shared), i + k = ea.length → s.heap = Hp (l₁ ++ DO (em ++ ea.take i) :: (l₂ ++ [DO ea])) life → s = { s₀ with heap := s.heap } → Q PUnit.unit { s₀ with heap := Hp (l₁ ++ DO (em ++ ea) :: (l₂ ++ [DO ea])) life } →
      wpAny (model prog w) A (forIn (List.range' i k) PUnit.unit f) Q E s
  | 0, i, s, hi, hh, he, hQ => by
    rw [List.range'_zero, List.forIn_nil]
    refine wpAny_pure ?_
    rw [List.take_of_length_le (by lia)] at hh
    rw [he, hh]; exact hQ
  | k + 1, i, s, hi, hh, he, hQ => by
    rw [List.range'_succ, List.forIn_cons]
    have hlt : i < ea.length := by lia
    refine wpAny_bind (hf i s ea[i] _ (List.getElem?_eq_getElem hlt) hh fun s' h1 h2 => ?_)
    exact merge_loop hIa hIm hsz hno hf k (i + 1) s' (by lia) h1 (by rw [h2, he]) hQ
theorem merge_new {ea em : List DictEntry} {s : Shared} {Q : Unit → Shared → Prop} (hh : s.heap = Hp (l₁ ++ DO em :: (l₂ ++ [DO ea])) life) (hIa : IntEs ea) (hIm : IntEs em) (hne : em ≠ []) (hsz : em.length + ea.length ≤ sizeLine)
    (hno : ∀ (i : Nat) e n t, ea[i]? = some e → e.key = .int n t → NoKey n (em ++ ea.take i)) (hsys : (l₁.length + 1 + l₂.length == sysModules) = false)
    (hQ : Q () { s with heap := Hp (l₁ ++ DO (em ++ ea) :: (l₂ ++ [DO ea])) life }) :
    wpAny (model prog w) A (mergeMapping l₁.length (.ref (l₁.length + 1 + l₂.length)) false) Q E s := by
  have subAt : ∀ (es : List DictEntry) (s : Shared), s.heap = Hp (l₁ ++ DO es :: (l₂ ++ [DO ea])) life → s.heap.get? (l₁.length + 1 + l₂.length) = some (DO ea) := fun es s hh => by
    rw [hh]
    refine hp_get ?_ (by simp)
    rw [List.getElem?_append_right (by lia), show l₁.length + 1 + l₂.length - l₁.length = l₂.length + 1 by lia, List.getElem?_cons_succ, List.getElem?_append_right (by lia)]
    simp
  unfold mergeMapping
  have ht : s.TypeIs (.ref (l₁.length + 1 + l₂.length)) "dict" := ⟨_, subAt em s hh, rfl⟩
  refine wpAny_bind (wpAny_isInstance ht isSubtype_dict_dict ?_)
  dsimp only
  rw [if_pos rfl]
  refine wpAny_bind (wpAny_specialOf ht F.slot_dict_iter.lookup ?_)
  refine wpAny_bind (wpAny_pure ?_)
  simp only [beq_self_eq_true, hsys, Bool.false_eq_true, if_false]
  refine wpAny_bind (wpAny_dictEntries (do_at hh) rfl ?_)
  rw [if_neg (by simpa using hne)]
  refine wpAny_bind (wpAny_dictEntries (subAt em s hh) rfl ?_)
  refine wpAny_bind (wpAny_dictEpoch (subAt em s hh) rfl ?_)
  rw [List.range_eq_range']
  refine wpAny_bind ?_
  refine merge_loop (l₁ := l₁) (l₂ := l₂) (life := life) (s₀ := s) hIa hIm hsz hno (fun i s₁ e R he h₁ hR => ?_) _ 0 s (by simp) (by simpa using hh) rfl (wpAny_pure hQ)
  refine wpAny_bind (wpAny_dictEntries (subAt _ s₁ h₁) rfl ?_)
  have hei : (⟨ea⟩ : Array DictEntry)[i]? = some e := by simpa using he
  simp only [hei]
  obtain ⟨n, t, h2, h3⟩ := hIa e (List.mem_of_getElem? he)
  have hlt : i < ea.length := (List.getElem?_eq_some_iff.mp he).1
  have htk : ea.take (i + 1) = ea.take i ++ [e] := by rw [List.take_add_one, he]; rfl
  refine wpAny_bind (wpAny_holding ?_)
  rw [h2, h3]
  refine put_new (l₁ := l₁) (l₂ := l₂ ++ [DO ea]) (life := life) h₁ (hIm.append fun x hx => hIa x (List.mem_of_mem_take hx)) (hno i e n t he h2) (by simp only [List.length_append, List.length_take]; lia) ?_
  have h4 : (Hp (l₁ ++ DO (em ++ ea.take i ++ [⟨hashInt n, .int n t, e.val⟩]) :: (l₂ ++ [DO ea])) life) = Hp (l₁ ++ DO (em ++ ea.take (i + 1)) :: (l₂ ++ [DO ea])) life := by
    rw [htk, ← h2, ← h3, List.append_assoc]
  rw [h4]
  refine wpAny_bind (wpAny_dictEpoch (subAt _ _ rfl) rfl ?_)
  simp only [bne_self_eq_false, Bool.false_eq_true, if_false]
  exact wpAny_pure (hR _ rfl rfl)
end
end Mine
end

/-! DictX -/
section
namespace Mine
noncomputable abbrev Items := List (Option (Sem Value) × Sem Value)
noncomputable abbrev Acc := Option Addr × List (Sem Value × Sem Value)
noncomputable abbrev gather (f : (Option (Sem Value) × Sem Value) → Acc → Sem (ForInStep Acc)) (items : Items) (a : Acc) : Sem Acc := forIn items a f
structure DD (disp : Items → Sem Value) where
  f : (Option (Sem Value) × Sem Value) → Acc → Sem (ForInStep Acc)
  g : Acc → Sem Value
  eq : ∀ items, disp items = gather f items (none, []) >>= g
noncomputable def dd : DD dictDisplay := by
  apply DD.mk
  intro items
  unfold dictDisplay
  dsimp only
section
variable {prog : Program} {w : World} {A : Around} {E : Value → Shared → Prop} {l₁ l₂ : List Obj} {life : Life}
theorem dd_more {M : Model} {k v : Sem Value} {main : Option Addr} {run : List (Sem Value × Sem Value)} {s : Shared} {Q : ForInStep Acc → Shared → Prop} (h : run.length + 1 < 17) (hQ : Q (.yield (main, run ++ [(k, v)])) s) : wpAny M A (dd.f (some k, v) (main, run)) Q E s := by
  show wpAny M A (if ((run ++ [(k, v)]).length == 17) = true then _ else _) Q E s
  rw [if_neg (by simp; lia)]
  exact wpAny_pure hQ
theorem dd_first {M : Model} {k v : Sem Value} {run : List (Sem Value × Sem Value)} {s : Shared} {Q : ForInStep Acc → Shared → Prop} (h : run.length + 1 = 17) (hQ : wpAny M A (subDict (run ++ [(k, v)])) (fun d s' => Q (.yield (some d, [])) s') E s) : wpAny M A (dd.f (some k, v) (none, run)) Q E s := by
  show wpAny M A (if ((run ++ [(k, v)]).length == 17) = true then _ else _) Q E s
  rw [if_pos (by simp; lia)]
  refine wpAny_bind ?_
  rw [if_neg (by simp)]
  exact wpAny_bind (wpAny_mono hQ (fun d s' h' => wpAny_pure (wpAny_pure h')) fun _ _ e => e)
theorem dd_next {M : Model} {k v : Sem Value} {d : Addr} {run : List (Sem Value × Sem Value)} {s : Shared} {Q : ForInStep Acc → Shared → Prop} (h : run.length + 1 = 17)
    (hQ : wpAny M A (subDict (run ++ [(k, v)])) (fun a s' => wpAny M A (mergeMapping d (.ref a) false) (fun _ s'' => Q (.yield (some d, [])) s'') (fun _ _ => False) s') E s) : wpAny M A (dd.f (some k, v) (some d, run)) Q E s := by
  show wpAny M A (if ((run ++ [(k, v)]).length == 17) = true then _ else _) Q E s
  rw [if_pos (by simp; lia)]
  refine wpAny_bind ?_
  rw [if_neg (by simp)]
  refine wpAny_bind (wpAny_holding (wpAny_mono hQ (fun a s' h' => ?_) fun _ _ e => e))
  exact wpAny_bind (wpAny_onRaise (wpAny_holding (wpAny_mono h' (fun _ s'' h'' => wpAny_pure (wpAny_pure h'')) fun _ _ e => e.elim)))
theorem dd_end {M : Model} {d : Addr} {run : List (Sem Value × Sem Value)} {s : Shared} {Q : Value → Shared → Prop} (h : run ≠ [])
    (hQ : wpAny M A (subDict run) (fun a s' => wpAny M A (mergeMapping d (.ref a) false) (fun _ s'' => Q (.ref d) s'') (fun _ _ => False) s') E s) : wpAny M A (dd.g (some d, run)) Q E s := by
  show wpAny M A ((if run.isEmpty = true then _ else _) >>= _) Q E s
  rw [if_neg (by simpa using h)]
  refine wpAny_bind ?_
  refine wpAny_bind (wpAny_holding (wpAny_mono hQ (fun a s' h' => ?_) fun _ _ e => e))
  exact wpAny_bind (wpAny_onRaise (wpAny_holding (wpAny_mono h' (fun _ s'' h'' => wpAny_pure (wpAny_pure h'')) fun _ _ e => e.elim)))
noncomputable abbrev asI (ps : List (Sem Value × Sem Value)) : Items := ps.map fun p => (some p.1, p.2)
theorem gather_run {M : Model} {main : Option Addr} {Q : Acc → Shared → Prop} (rest : Items) {s : Shared} : ∀ (ps run : List (Sem Value × Sem Value)), run.length + ps.length < 17 → wpAny M A (gather dd.f rest (main, run ++ ps)) Q E s → wpAny M A (gather dd.f (asI ps ++ rest) (main, run)) Q E s
  | [], run, _, h => by simpa using h
  | (k, v) :: ps, run, hl, h => by
    show wpAny M A (forIn ((some k, v) :: (asI ps ++ rest)) _ _) Q E s
    rw [List.forIn_cons]
    simp only [List.length_cons] at hl
    exact wpAny_bind (dd_more (by lia) (gather_run rest ps (run ++ [(k, v)]) (by simp; lia) (by simpa using h)))
theorem split_last {ps : List (Sem Value × Sem Value)} (h : ps.length = 17) : ∃ qs k v, ps = qs ++ [(k, v)] ∧ qs.length = 16 := by
  have hne : ps ≠ [] := by intro e; rw [e] at h; simp at h
  refine ⟨ps.dropLast, (ps.getLast hne).1, (ps.getLast hne).2, ?_, by simp [h]⟩
  exact (List.dropLast_concat_getLast hne).symm
theorem gather_one {M : Model} {main : Option Addr} {Q : Acc → Shared → Prop} (rest : Items) {s : Shared} {ps : List (Sem Value × Sem Value)} (hl : ps.length = 17)
    (h : ∀ k v (run : List (Sem Value × Sem Value)), run ++ [(k, v)] = ps → run.length + 1 = 17 → wpAny M A (dd.f (some k, v) (main, run)) (fun r s' => ∃ b, r = .yield b ∧ wpAny M A (gather dd.f rest b) Q E s') E s) : wpAny M A (gather dd.f (asI ps ++ rest) (main, [])) Q E s := by
  obtain ⟨qs, k, v, rfl, hq⟩ := split_last hl
  rw [show asI (qs ++ [(k, v)]) ++ rest = asI qs ++ ((some k, v) :: rest) by simp [asI]]
  refine gather_run _ qs [] (by simp; lia) ?_
  show wpAny M A (forIn ((some k, v) :: rest) _ _) Q E s
  rw [List.forIn_cons]
  refine wpAny_bind (wpAny_mono (h k v qs rfl (by lia)) (fun r s' ⟨b, e, h'⟩ => ?_) fun _ _ e => e)
  subst e; exact h'
theorem Shp.take {M : Model} (n : Nat) : ∀ {ps : List (Sem Value × Sem Value)} {tab : List (Int × Str)} , Shp M ps tab → Shp M (ps.take n) (tab.take n) := by
  induction n with
  | zero => intro ps tab _; simp [Shp]
  | succ n ih =>
    intro ps tab h
    match ps, tab, h with
    | [], [], _ => trivial
    | (k, v) :: ps, (m, x) :: tab, ⟨a, b, c⟩ => exact ⟨a, b, ih c⟩
    | [], _ :: _, h => exact h.elim
    | _ :: _, [], h => exact h.elim
theorem Shp.drop {M : Model} (n : Nat) : ∀ {ps : List (Sem Value × Sem Value)} {tab : List (Int × Str)} , Shp M ps tab → Shp M (ps.drop n) (tab.drop n) := by
  induction n with
  | zero => intro ps tab h; simpa using h
  | succ n ih =>
    intro ps tab h
    match ps, tab, h with
    | [], [], _ => trivial
    | (k, v) :: ps, (m, x) :: tab, ⟨a, b, c⟩ => exact ih c
    | [], _ :: _, h => exact h.elim
    | _ :: _, [], h => exact h.elim
/-- the parts of the table, m of them -/
noncomputable def subsOf : Nat → Nat → List (Int × Str) → List Obj
  | 0, _, _ => []
  | m + 1, t, tab => DO (entsL 3 t (tab.take 17)) :: subsOf m (t + 51) (tab.drop 17)
theorem no_take {es : List DictEntry} {d t : Nat} {tab : List (Int × Str)} (hnd : (tab.map (·.1)).Nodup) (hno : ∀ n ∈ tab.map (·.1), NoKey n es) (i : Nat) (e : DictEntry) (n : Int) (u : Tok) (he : (entsL d t tab)[i]? = some e) (hk : e.key = .int n u) : NoKey n (es ++ (entsL d t tab).take i) := by
  induction tab generalizing t i es with
  | nil => simp [entsL] at he
  | cons p tab ih =>
    obtain ⟨m, x⟩ := p
    simp only [List.map_cons, List.nodup_cons] at hnd
    cases i with
    | zero =>
      simp only [entsL, List.getElem?_cons_zero, Option.some.injEq] at he
      subst he
      simp only [Value.int.injEq] at hk
      simp only [List.take_zero, List.append_nil]
      exact hno n (by simp [hk.1])
    | succ i =>
      simp only [entsL, List.getElem?_cons_succ] at he
      simp only [entsL, List.take_succ_cons]
      have hmem : n ∈ tab.map (·.1) := by
        have : ∀ (t : Nat) (tab : List (Int × Str)) (i : Nat), (entsL d t tab)[i]? = some e → n ∈ tab.map (·.1) := by
          intro t tab
          induction tab generalizing t with
          | nil => intro i h; simp [entsL] at h
          | cons q tab ih2 =>
            intro i h
            cases i with
            | zero => simp only [entsL, List.getElem?_cons_zero, Option.some.injEq] at h; subst h; simp only [Value.int.injEq] at hk; simp [hk.1]
            | succ i => simp only [entsL, List.getElem?_cons_succ] at h; have := ih2 _ i h; simp only [List.map_cons, List.mem_cons]; exact .inr this
        exact this _ _ i he
      have := ih (es := es ++ [⟨hashInt m, .int m t, .str x (t + 1)⟩]) (t := t + d) (i := i) hnd.2 (fun a ha => (hno a (by simp [ha])).append fun e' he' => by
        simp only [List.mem_singleton] at he'; subst he'; simp only [Value.isInt]; exact beq_eq_false_iff_ne.mpr fun q => hnd.1 (by first | exact q ▸ ha | exact q.symm ▸ ha)) he
      simpa using this
theorem gather_parts : ∀ (m : Nat) (ps : List (Sem Value × Sem Value)) (tab : List (Int × Str)) (em : List DictEntry) (s : Shared) (l₂ : List Obj) (Q : Acc → Shared → Prop), Shp (model prog w) ps tab → 17 * m ≤ tab.length → s.heap = Hp (l₁ ++ DO em :: l₂) life → em ≠ [] → IntEs em → (tab.map (·.1)).Nodup → (∀ n ∈ tab.map (·.1), NoKey n em) → em.length + tab.length ≤ sizeLine →
    (∀ i, (l₁.length + 1 + i == sysModules) = false) →
    wpAny (model prog w) A (gather dd.f (asI (ps.drop (17 * m))) (some l₁.length, [])) Q E { s with heap := Hp (l₁ ++ DO (em ++ entsL 3 s.toks (tab.take (17 * m))) :: (l₂ ++ subsOf m s.toks tab)) life, toks := s.toks + 51 * m } →
    wpAny (model prog w) A (gather dd.f (asI ps) (some l₁.length, [])) Q E s
  | 0, ps, tab, em, s, l₂, Q, hs, hm, hh, hne, hI, hnd, hno, hsz, hsys, hQ => by
    simp only [Nat.mul_zero, List.drop_zero, List.take_zero, entsL, List.append_nil, subsOf, Nat.add_zero] at hQ
    rw [← hh] at hQ
    exact hQ
  | m + 1, ps, tab, em, s, l₂, Q, hs, hm, hh, hne, hI, hnd, hno, hsz, hsys, hQ => by
    have hpl := hs.length
    have e1 : asI ps = asI (ps.take 17) ++ asI (ps.drop 17) := by rw [← List.map_append, List.take_append_drop]
    rw [e1]
    have hsplit : tab.take 17 ++ tab.drop 17 = tab := List.take_append_drop ..
    have hnd' := hnd
    rw [← hsplit, List.map_append, List.nodup_append] at hnd'
    have hno' : ∀ n ∈ (tab.take 17).map (·.1), NoKey n em := fun n hn => hno n (by rw [← hsplit, List.map_append]; exact List.mem_append_left _ hn)
    have hlen17 : (tab.take 17).length = 17 := by rw [List.length_take]; lia
    refine gather_one _ (by rw [List.length_take]; lia) fun k v run hr h17 => ?_
    refine dd_next h17 ?_
    rw [hr]
    refine sub_long (hs.take 17) (by lia) (by lia) hh hnd'.1 ?_
    rw [List.append_assoc, List.cons_append, show (l₁ ++ DO em :: l₂).length = l₁.length + 1 + l₂.length by simp; lia]
    refine merge_new (l₁ := l₁) (l₂ := l₂) (life := life) rfl (entsL_int 3 _ _) hI hne (by rw [entsL_len]; lia) (fun i e n t he hk => no_take hnd'.1 hno' i e n t he hk) (hsys _) ?_
    refine ⟨_, rfl, ?_⟩
    rw [hlen17]
    have hno2 : ∀ n ∈ (tab.drop 17).map (·.1), NoKey n (em ++ entsL 3 s.toks (tab.take 17)) := fun n hn =>
      (hno n (by rw [← hsplit, List.map_append]; exact List.mem_append_right _ hn)).append (entsL_no 3 _ _ fun q => hnd'.2.2 n q n hn rfl)
    refine gather_parts m (ps.drop 17) (tab.drop 17) (em ++ entsL 3 s.toks (tab.take 17)) _ (l₂ ++ [DO (entsL 3 s.toks (tab.take 17))]) Q (hs.drop 17) (by rw [List.length_drop]; lia) rfl (by simp [hne]) (hI.append (entsL_int 3 _ _)) hnd'.2.1 hno2 (by rw [List.length_append, entsL_len, List.length_drop]; lia) hsys ?_
    have e2 : tab.take (17 * (m + 1)) = tab.take 17 ++ (tab.drop 17).take (17 * m) := by rw [show 17 * (m + 1) = 17 + 17 * m by lia, List.take_add]
    have e3 : ps.drop (17 * (m + 1)) = (ps.drop 17).drop (17 * m) := by rw [List.drop_drop, show 17 * (m + 1) = 17 + 17 * m by lia]
    rw [e2, e3, entsL_append, hlen17] at hQ
    simp only [subsOf] at hQ
    simp only [List.append_assoc, List.cons_append, List.nil_append]
    rw [show s.toks + 3 * 17 = s.toks + 51 by lia, show s.toks + 51 + 51 * m = s.toks + 51 * (m + 1) by lia]
    rw [show s.toks + 3 * 17 = s.toks + 51 by lia] at hQ
    exact hQ
/-- the objects of a table of 17 m + r items -/
noncomputable def tabObjs (m t : Nat) (tab : List (Int × Str)) : List Obj :=
  DO (entsL 3 t (tab.take (17 * (m + 1))) ++ entsL 2 (t + 51 * (m + 1)) (tab.drop (17 * (m + 1)))) :: (subsOf m (t + 51) (tab.drop 17) ++ [DO (entsL 2 (t + 51 * (m + 1)) (tab.drop (17 * (m + 1))))])
theorem display_all (m : Nat) {ps : List (Sem Value × Sem Value)} {tab : List (Int × Str)} {s : Shared} {Q : Value → Shared → Prop} (hs : Shp (model prog w) ps tab) (h1 : 17 * (m + 1) < tab.length) (h2 : tab.length ≤ 17 * (m + 1) + 15) (hh : s.heap = Hp l₁ life) (hnd : (tab.map (·.1)).Nodup) (hsz : tab.length ≤ sizeLine)
    (hsys : ∀ i, (l₁.length + 1 + i == sysModules) = false)
    (hQ : Q (.ref l₁.length) { s with heap := Hp (l₁ ++ tabObjs m s.toks tab) life, toks := s.toks + 51 * (m + 1) + 3 * (tab.length - 17 * (m + 1)) }) : wpAny (model prog w) A (dictDisplay (asI ps)) Q E s := by
  rw [dd.eq]
  refine wpAny_bind ?_
  have hpl := hs.length
  have e1 : asI ps = asI (ps.take 17) ++ asI (ps.drop 17) := by rw [← List.map_append, List.take_append_drop]
  rw [e1]
  have hsplit : tab.take 17 ++ tab.drop 17 = tab := List.take_append_drop ..
  have hnd' := hnd
  rw [← hsplit, List.map_append, List.nodup_append] at hnd'
  have hlen17 : (tab.take 17).length = 17 := by rw [List.length_take]; lia
  refine gather_one _ (by rw [List.length_take]; lia) fun k v run hr h17 => ?_
  refine dd_first h17 ?_
  rw [hr]
  refine sub_long (hs.take 17) (by lia) (by lia) hh hnd'.1 ?_
  refine ⟨_, rfl, ?_⟩
  rw [hlen17]
  have hno2 : ∀ n ∈ (tab.drop 17).map (·.1), NoKey n (entsL 3 s.toks (tab.take 17)) := fun n hn => entsL_no 3 _ _ fun q => hnd'.2.2 n q n hn rfl
  have hfull : asI (ps.drop 17) = asI (ps.drop 17) := rfl
  have he17 : entsL 3 s.toks (tab.take 17) ≠ [] := by intro e; have := congrArg List.length e; rw [entsL_len, hlen17] at this; simp at this
  refine gather_parts (l₁ := l₁) (life := life) m (ps.drop 17) (tab.drop 17) (entsL 3 s.toks (tab.take 17)) _ [] _ (hs.drop 17) (by rw [List.length_drop]; lia) rfl he17 (entsL_int 3 _ _) hnd'.2.1 hno2 (by rw [entsL_len, List.length_drop]; lia) hsys ?_
  rw [List.drop_drop, show 17 + 17 * m = 17 * (m + 1) by lia]
  have hr2 : (ps.drop (17 * (m + 1))).length < 17 := by rw [List.length_drop]; lia
  rw [show asI (ps.drop (17 * (m + 1))) = asI (ps.drop (17 * (m + 1))) ++ [] by simp]
  refine gather_run [] _ [] (by simpa using hr2) ?_
  rw [List.nil_append]
  show wpAny _ _ (forIn ([] : Items) _ _) _ _ _
  rw [List.forIn_nil]
  refine wpAny_pure ?_
  have e2 : tab.take (17 * (m + 1)) = tab.take 17 ++ (tab.drop 17).take (17 * m) := by rw [show 17 * (m + 1) = 17 + 17 * m by lia, List.take_add]
  have hsplit3 : tab.take (17 * (m + 1)) ++ tab.drop (17 * (m + 1)) = tab := List.take_append_drop ..
  have hnd3 := hnd
  rw [← hsplit3, List.map_append, List.nodup_append] at hnd3
  have hl3 : (tab.take (17 * (m + 1))).length = 17 * (m + 1) := by rw [List.length_take]; lia
  have hmain : entsL 3 s.toks (tab.take 17) ++ entsL 3 (s.toks + 3 * 17) ((tab.drop 17).take (17 * m)) = entsL 3 s.toks (tab.take (17 * (m + 1))) := by
    rw [e2, entsL_append, hlen17]
  have hne4 : (ps.drop (17 * (m + 1))) ≠ [] := by intro e; have := congrArg List.length e; rw [List.length_drop] at this; simp at this; lia
  refine dd_end hne4 ?_
  dsimp only
  rw [hmain]
  refine sub_short (hs.drop _) (by rw [List.length_drop]; lia) rfl hnd3.2.1 ?_
  dsimp only
  rw [List.append_assoc, List.cons_append, show (l₁ ++ DO (entsL 3 s.toks (tab.take (17 * (m + 1)))) :: ([] ++ subsOf m (s.toks + 3 * 17) (tab.drop 17))).length = l₁.length + 1 + (subsOf m (s.toks + 3 * 17) (tab.drop 17)).length by simp; lia]
  have hno3 : ∀ n ∈ (tab.drop (17 * (m + 1))).map (·.1), NoKey n (entsL 3 s.toks (tab.take (17 * (m + 1)))) := fun n hn => entsL_no 3 _ _ fun q => hnd3.2.2 n q n hn rfl
  refine merge_new (l₁ := l₁) (l₂ := subsOf m (s.toks + 3 * 17) (tab.drop 17)) (life := life) rfl (entsL_int 2 _ _) (entsL_int 3 _ _) (by intro e; have := congrArg List.length e; rw [entsL_len, hl3] at this; simp at this) (by rw [entsL_len, entsL_len, hl3, List.length_drop]; lia) (fun i e n t he hk => no_take hnd3.2.1 hno3 i e n t he hk) (hsys _) ?_
  unfold tabObjs at hQ
  rw [List.length_drop]
  rw [show s.toks + 3 * 17 + 51 * m = s.toks + 51 * (m + 1) by lia, show s.toks + 3 * 17 = s.toks + 51 by lia, show s.toks + 51 * (m + 1) + 2 * (tab.length - 17 * (m + 1)) + (tab.length - 17 * (m + 1)) = s.toks + 51 * (m + 1) + 3 * (tab.length - 17 * (m + 1)) by lia]
  exact hQ
end
end Mine
end

/-! Head1 -/
section
set_option maxRecDepth 100000
namespace Mine
noncomputable def argsOf : Stmt → Arguments
  | .FunctionDef _ a _ _ _ _ _ _ _ _ => a
  | _ => default
noncomputable def scopeOf : Stmt → Scope
  | .FunctionDef _ _ _ _ _ _ sc _ _ _ => sc
  | _ => default
/-- the items of the text's one table -/
noncomputable def tabK : List (Option Expr) := match topSt 6 with
  | .Assign _ (.Dict ks _ _) _ => ks
  | _ => []
noncomputable def tabV : List Expr := match topSt 6 with
  | .Assign _ (.Dict _ vs _) _ => vs
  | _ => []
noncomputable def pairOf : Option Expr → Expr → Int × Str
  | some (.Constant (.int n) _ _), .Constant (.str x) _ _ => (n, x)
  | _, _ => (0, ⟨⟨[]⟩⟩)
noncomputable def tab : List (Int × Str) := List.zipWith pairOf tabK tabV
/-- the table, and the parts that it was made of -/
noncomputable def dictO (i : Nat) : Obj := (tabObjs 37 365 tab)[i]?.getD default
noncomputable def o11v1 (P : Params) : Obj := ⟨.type "tuple", none, .seq ⟨[]⟩ 0, ⟨[]⟩⟩
noncomputable def o12v1 (P : Params) : Obj := ⟨.none, none, .fields ⟨[]⟩, ⟨[]⟩⟩
noncomputable def o13v1 (P : Params) : Obj := ⟨.type "code", none, .fields ⟨[.str ⟨⟨[60, 109, 111, 100, 117, 108, 101, 62]⟩⟩ 182, .str ⟨⟨[60, 109, 111, 100, 117, 108, 101, 62]⟩⟩ 183, .str ⟨⟨[47, 99, 108, 97, 105, 109, 47, 99, 117, 116, 46, 112, 121]⟩⟩ 184, .int (1) 0, .int (0) 0, .int (0) 0, .int (0) 0, .int (0) 0, .ref 11, .bool false, .int (181) 0, .ref 12, .none, .none, .none, .none, .int (185) 0, .int (1) 0, .str ⟨⟨[47, 99, 108, 97, 105, 109, 47, 99, 117, 116, 46, 112, 121]⟩⟩ 186]⟩, ⟨[]⟩⟩
noncomputable def o14v1 (P : Params) : Obj := ⟨.type "frame", none, .plain, ⟨[some (.ref 13), some (.ref 3), some (.ref 3), none, some (.str ⟨⟨[95, 95, 109, 97, 105, 110, 95, 95]⟩⟩ 164), none, some (.ref 0)]⟩⟩
noncomputable def o3v1 (P : Params) : Obj := ⟨.type "dict", none, .dict ⟨[⟨PyData.keyHash P ⟨⟨[95, 95, 110, 97, 109, 101, 95, 95]⟩⟩, .str ⟨⟨[95, 95, 110, 97, 109, 101, 95, 95]⟩⟩ 165, .str ⟨⟨[95, 95, 109, 97, 105, 110, 95, 95]⟩⟩ 164⟩, ⟨PyData.keyHash P ⟨⟨[95, 95, 100, 111, 99, 95, 95]⟩⟩, .str ⟨⟨[95, 95, 100, 111, 99, 95, 95]⟩⟩ 166, .none⟩, ⟨PyData.keyHash P ⟨⟨[95, 95, 112, 97, 99, 107, 97, 103, 101, 95, 95]⟩⟩, .str ⟨⟨[95, 95, 112, 97, 99, 107, 97, 103, 101, 95, 95]⟩⟩ 167, .none⟩, ⟨PyData.keyHash P ⟨⟨[95, 95, 108, 111, 97, 100, 101, 114, 95, 95]⟩⟩, .str ⟨⟨[95, 95, 108, 111, 97, 100, 101, 114, 95, 95]⟩⟩ 168, .builtin "__main__.__loader__#op\x61que"⟩, ⟨PyData.keyHash P ⟨⟨[95, 95, 115, 112, 101, 99, 95, 95]⟩⟩, .str ⟨⟨[95, 95, 115, 112, 101, 99, 95, 95]⟩⟩ 169, .none⟩, ⟨PyData.keyHash P ⟨⟨[95, 95, 97, 110, 110, 111, 116, 97, 116, 105, 111, 110, 115, 95, 95]⟩⟩, .str ⟨⟨[95, 95, 97, 110, 110, 111, 116, 97, 116, 105, 111, 110, 115, 95, 95]⟩⟩ 170, .ref 6⟩, ⟨PyData.keyHash P ⟨⟨[95, 95, 98, 117, 105, 108, 116, 105, 110, 115, 95, 95]⟩⟩, .str ⟨⟨[95, 95, 98, 117, 105, 108, 116, 105, 110, 115, 95, 95]⟩⟩ 171, .ref 4⟩, ⟨PyData.keyHash P ⟨⟨[95, 95, 102, 105, 108, 101, 95, 95]⟩⟩, .str ⟨⟨[95, 95, 102, 105, 108, 101, 95, 95]⟩⟩ 173, .str ⟨⟨[47, 99, 108, 97, 105, 109, 47, 99, 117, 116, 46, 112, 121]⟩⟩ 172⟩, ⟨PyData.keyHash P ⟨⟨[95, 95, 99, 97, 99, 104, 101, 100, 95, 95]⟩⟩, .str ⟨⟨[95, 95, 99, 97, 99, 104, 101, 100, 95, 95]⟩⟩ 174, .none⟩, ⟨PyData.keyHash P ⟨⟨[95, 119, 97, 108, 108]⟩⟩, .str ⟨⟨[95, 119, 97, 108, 108]⟩⟩ 193, .ref 21⟩]⟩ 10, ⟨[]⟩⟩
noncomputable def o12v2 (P : Params) : Obj := ⟨.none, none, .fields ⟨[.int (1) 0, .int (0) 0, .ref 20]⟩, ⟨[]⟩⟩
noncomputable def o15v1 (P : Params) : Obj := ⟨.type "tuple", none, .seq ⟨[]⟩ 0, ⟨[]⟩⟩
noncomputable def o16v1 (P : Params) : Obj := ⟨.none, none, .fields ⟨[]⟩, ⟨[]⟩⟩
noncomputable def o17v1 (P : Params) : Obj := ⟨.type "tuple", none, .seq ⟨[.str ⟨⟨[107]⟩⟩ 190]⟩ 0, ⟨[]⟩⟩
noncomputable def o18v1 (P : Params) : Obj := ⟨.type "tuple", none, .seq ⟨[]⟩ 0, ⟨[]⟩⟩
noncomputable def o19v1 (P : Params) : Obj := ⟨.none, none, .func ⟨⟨⟨[95, 119, 97, 108, 108]⟩⟩, ⟨⟨[95, 119, 97, 108, 108]⟩⟩, argsOf (topSt 0), .stmts (bodyOf (topSt 0)), scopeOf (topSt 0), 0, [], .none, .none, .none, .none, none, .none, .none, 0⟩, ⟨[]⟩⟩
noncomputable def o20v1 (P : Params) : Obj := ⟨.type "code", none, .fields ⟨[.str ⟨⟨[95, 119, 97, 108, 108]⟩⟩ 187, .str ⟨⟨[95, 119, 97, 108, 108]⟩⟩ 188, .str ⟨⟨[47, 99, 108, 97, 105, 109, 47, 99, 117, 116, 46, 112, 121]⟩⟩ 189, .int (1) 0, .int (1) 0, .int (0) 0, .int (0) 0, .int (3) 0, .ref 15, .bool true, .int (181) 0, .ref 16, .none, .ref 17, .ref 18, .ref 19, .int (191) 0, .int (1) 0, .str ⟨⟨[47, 99, 108, 97, 105, 109, 47, 99, 117, 116, 46, 112, 121]⟩⟩ 192]⟩, ⟨[]⟩⟩
noncomputable def o21v1 (P : Params) : Obj := ⟨.type "function", none, .func ⟨⟨⟨[95, 119, 97, 108, 108]⟩⟩, ⟨⟨[95, 119, 97, 108, 108]⟩⟩, argsOf (topSt 0), .stmts (bodyOf (topSt 0)), scopeOf (topSt 0), 3, [], .none, .none, .none, .str ⟨⟨[95, 95, 109, 97, 105, 110, 95, 95]⟩⟩ 164, none, .ref 20, .none, 0⟩, ⟨[]⟩⟩
noncomputable def o3v2 (P : Params) : Obj := ⟨.type "dict", none, .dict ⟨[⟨PyData.keyHash P ⟨⟨[95, 95, 110, 97, 109, 101, 95, 95]⟩⟩, .str ⟨⟨[95, 95, 110, 97, 109, 101, 95, 95]⟩⟩ 165, .str ⟨⟨[99, 112, 121, 51, 49, 51, 46, 116, 97, 98, 110, 97, 110, 110, 121]⟩⟩ 194⟩, ⟨PyData.keyHash P ⟨⟨[95, 95, 100, 111, 99, 95, 95]⟩⟩, .str ⟨⟨[95, 95, 100, 111, 99, 95, 95]⟩⟩ 166, .none⟩, ⟨PyData.keyHash P ⟨⟨[95, 95, 112, 97, 99, 107, 97, 103, 101, 95, 95]⟩⟩, .str ⟨⟨[95, 95, 112, 97, 99, 107, 97, 103, 101, 95, 95]⟩⟩ 167, .none⟩, ⟨PyData.keyHash P ⟨⟨[95, 95, 108, 111, 97, 100, 101, 114, 95, 95]⟩⟩, .str ⟨⟨[95, 95, 108, 111, 97, 100, 101, 114, 95, 95]⟩⟩ 168, .builtin "__main__.__loader__#op\x61que"⟩, ⟨PyData.keyHash P ⟨⟨[95, 95, 115, 112, 101, 99, 95, 95]⟩⟩, .str ⟨⟨[95, 95, 115, 112, 101, 99, 95, 95]⟩⟩ 169, .none⟩, ⟨PyData.keyHash P ⟨⟨[95, 95, 97, 110, 110, 111, 116, 97, 116, 105, 111, 110, 115, 95, 95]⟩⟩, .str ⟨⟨[95, 95, 97, 110, 110, 111, 116, 97, 116, 105, 111, 110, 115, 95, 95]⟩⟩ 170, .ref 6⟩, ⟨PyData.keyHash P ⟨⟨[95, 95, 98, 117, 105, 108, 116, 105, 110, 115, 95, 95]⟩⟩, .str ⟨⟨[95, 95, 98, 117, 105, 108, 116, 105, 110, 115, 95, 95]⟩⟩ 171, .ref 4⟩, ⟨PyData.keyHash P ⟨⟨[95, 95, 102, 105, 108, 101, 95, 95]⟩⟩, .str ⟨⟨[95, 95, 102, 105, 108, 101, 95, 95]⟩⟩ 173, .str ⟨⟨[47, 99, 108, 97, 105, 109, 47, 99, 117, 116, 46, 112, 121]⟩⟩ 172⟩, ⟨PyData.keyHash P ⟨⟨[95, 95, 99, 97, 99, 104, 101, 100, 95, 95]⟩⟩, .str ⟨⟨[95, 95, 99, 97, 99, 104, 101, 100, 95, 95]⟩⟩ 174, .none⟩, ⟨PyData.keyHash P ⟨⟨[95, 119, 97, 108, 108]⟩⟩, .str ⟨⟨[95, 119, 97, 108, 108]⟩⟩ 193, .ref 21⟩]⟩ 10, ⟨[]⟩⟩
noncomputable def o3v3 (P : Params) : Obj := ⟨.type "dict", none, .dict ⟨[⟨PyData.keyHash P ⟨⟨[95, 95, 110, 97, 109, 101, 95, 95]⟩⟩, .str ⟨⟨[95, 95, 110, 97, 109, 101, 95, 95]⟩⟩ 165, .str ⟨⟨[99, 112, 121, 51, 49, 51, 46, 116, 97, 98, 110, 97, 110, 110, 121]⟩⟩ 194⟩, ⟨PyData.keyHash P ⟨⟨[95, 95, 100, 111, 99, 95, 95]⟩⟩, .str ⟨⟨[95, 95, 100, 111, 99, 95, 95]⟩⟩ 166, .none⟩, ⟨PyData.keyHash P ⟨⟨[95, 95, 112, 97, 99, 107, 97, 103, 101, 95, 95]⟩⟩, .str ⟨⟨[95, 95, 112, 97, 99, 107, 97, 103, 101, 95, 95]⟩⟩ 167, .none⟩, ⟨PyData.keyHash P ⟨⟨[95, 95, 108, 111, 97, 100, 101, 114, 95, 95]⟩⟩, .str ⟨⟨[95, 95, 108, 111, 97, 100, 101, 114, 95, 95]⟩⟩ 168, .builtin "__main__.__loader__#op\x61que"⟩, ⟨PyData.keyHash P ⟨⟨[95, 95, 115, 112, 101, 99, 95, 95]⟩⟩, .str ⟨⟨[95, 95, 115, 112, 101, 99, 95, 95]⟩⟩ 169, .none⟩, ⟨PyData.keyHash P ⟨⟨[95, 95, 97, 110, 110, 111, 116, 97, 116, 105, 111, 110, 115, 95, 95]⟩⟩, .str ⟨⟨[95, 95, 97, 110, 110, 111, 116, 97, 116, 105, 111, 110, 115, 95, 95]⟩⟩ 170, .ref 6⟩, ⟨PyData.keyHash P ⟨⟨[95, 95, 98, 117, 105, 108, 116, 105, 110, 115, 95, 95]⟩⟩, .str ⟨⟨[95, 95, 98, 117, 105, 108, 116, 105, 110, 115, 95, 95]⟩⟩ 171, .ref 4⟩, ⟨PyData.keyHash P ⟨⟨[95, 95, 102, 105, 108, 101, 95, 95]⟩⟩, .str ⟨⟨[95, 95, 102, 105, 108, 101, 95, 95]⟩⟩ 173, .str ⟨⟨[47, 99, 108, 97, 105, 109, 47, 99, 117, 116, 46, 112, 121]⟩⟩ 172⟩, ⟨PyData.keyHash P ⟨⟨[95, 95, 99, 97, 99, 104, 101, 100, 95, 95]⟩⟩, .str ⟨⟨[95, 95, 99, 97, 99, 104, 101, 100, 95, 95]⟩⟩ 174, .none⟩, ⟨PyData.keyHash P ⟨⟨[95, 119, 97, 108, 108]⟩⟩, .str ⟨⟨[95, 119, 97, 108, 108]⟩⟩ 193, .ref 21⟩, ⟨PyData.keyHash P ⟨⟨[87, 104, 105, 116, 101, 115, 112, 97, 99, 101]⟩⟩, .str ⟨⟨[87, 104, 105, 116, 101, 115, 112, 97, 99, 101]⟩⟩ 295, .ref 83⟩]⟩ 11, ⟨[]⟩⟩
noncomputable def o12v3 (P : Params) : Obj := ⟨.none, none, .fields ⟨[.int (1) 0, .int (0) 0, .ref 20, .int (5) 0, .int (0) 0, .ref 27]⟩, ⟨[]⟩⟩
noncomputable def o22v1 (P : Params) : Obj := ⟨.type "tuple", none, .seq ⟨[]⟩ 0, ⟨[]⟩⟩
noncomputable def o23v1 (P : Params) : Obj := ⟨.type "builtin_function_or_method", none, .fields ⟨[.builtin "type.__prepare__", .type "type"]⟩, ⟨[]⟩⟩
noncomputable def o24v1 (P : Params) : Obj := ⟨.type "dict", none, .dict ⟨[⟨PyData.keyHash P ⟨⟨[95, 95, 109, 111, 100, 117, 108, 101, 95, 95]⟩⟩, .str ⟨⟨[95, 95, 109, 111, 100, 117, 108, 101, 95, 95]⟩⟩ 203, .str ⟨⟨[99, 112, 121, 51, 49, 51, 46, 116, 97, 98, 110, 97, 110, 110, 121]⟩⟩ 194⟩, ⟨PyData.keyHash P ⟨⟨[95, 95, 113, 117, 97, 108, 110, 97, 109, 101, 95, 95]⟩⟩, .str ⟨⟨[95, 95, 113, 117, 97, 108, 110, 97, 109, 101, 95, 95]⟩⟩ 205, .str ⟨⟨[87, 104, 105, 116, 101, 115, 112, 97, 99, 101]⟩⟩ 204⟩, ⟨PyData.keyHash P ⟨⟨[95, 95, 102, 105, 114, 115, 116, 108, 105, 110, 101, 110, 111, 95, 95]⟩⟩, .str ⟨⟨[95, 95, 102, 105, 114, 115, 116, 108, 105, 110, 101, 110, 111, 95, 95]⟩⟩ 207, .int (5) 206⟩, ⟨PyData.keyHash P ⟨⟨[83]⟩⟩, .str ⟨⟨[83]⟩⟩ 211, .str ⟨⟨[32]⟩⟩ 209⟩, ⟨PyData.keyHash P ⟨⟨[84]⟩⟩, .str ⟨⟨[84]⟩⟩ 212, .str ⟨⟨[9]⟩⟩ 210⟩, ⟨PyData.keyHash P ⟨⟨[95, 95, 105, 110, 105, 116, 95, 95]⟩⟩, .str ⟨⟨[95, 95, 105, 110, 105, 116, 95, 95]⟩⟩ 227, .ref 38⟩, ⟨PyData.keyHash P ⟨⟨[108, 111, 110, 103, 101, 115, 116, 95, 114, 117, 110, 95, 111, 102, 95, 115, 112, 97, 99, 101, 115]⟩⟩, .str ⟨⟨[108, 111, 110, 103, 101, 115, 116, 95, 114, 117, 110, 95, 111, 102, 95, 115, 112, 97, 99, 101, 115]⟩⟩ 236, .ref 45⟩, ⟨PyData.keyHash P ⟨⟨[105, 110, 100, 101, 110, 116, 95, 108, 101, 118, 101, 108]⟩⟩, .str ⟨⟨[105, 110, 100, 101, 110, 116, 95, 108, 101, 118, 101, 108]⟩⟩ 248, .ref 52⟩, ⟨PyData.keyHash P ⟨⟨[101, 113, 117, 97, 108]⟩⟩, .str ⟨⟨[101, 113, 117, 97, 108]⟩⟩ 256, .ref 59⟩, ⟨PyData.keyHash P ⟨⟨[110, 111, 116, 95, 101, 113, 117, 97, 108, 95, 119, 105, 116, 110, 101, 115, 115]⟩⟩, .str ⟨⟨[110, 111, 116, 95, 101, 113, 117, 97, 108, 95, 119, 105, 116, 110, 101, 115, 115]⟩⟩ 264, .ref 66⟩, ⟨PyData.keyHash P ⟨⟨[108, 101, 115, 115]⟩⟩, .str ⟨⟨[108, 101, 115, 115]⟩⟩ 274, .ref 73⟩, ⟨PyData.keyHash P ⟨⟨[110, 111, 116, 95, 108, 101, 115, 115, 95, 119, 105, 116, 110, 101, 115, 115]⟩⟩, .str ⟨⟨[110, 111, 116, 95, 108, 101, 115, 115, 95, 119, 105, 116, 110, 101, 115, 115]⟩⟩ 282, .ref 80⟩, ⟨PyData.keyHash P ⟨⟨[95, 95, 115, 116, 97, 116, 105, 99, 95, 97, 116, 116, 114, 105, 98, 117, 116, 101, 115, 95, 95]⟩⟩, .str ⟨⟨[95, 95, 115, 116, 97, 116, 105, 99, 95, 97, 116, 116, 114, 105, 98, 117, 116, 101, 115, 95, 95]⟩⟩ 288, .ref 81⟩]⟩ 13, ⟨[]⟩⟩
noncomputable def o25v1 (P : Params) : Obj := ⟨.type "tuple", none, .seq ⟨[]⟩ 0, ⟨[]⟩⟩
noncomputable def o26v1 (P : Params) : Obj := ⟨.none, none, .fields ⟨[.int (8) 0, .int (4) 0, .ref 37, .int (31) 0, .int (4) 0, .ref 44, .int (35) 0, .int (4) 0, .ref 51, .int (42) 0, .int (4) 0, .ref 58, .int (45) 0, .int (4) 0, .ref 65, .int (48) 0, .int (4) 0, .ref 72, .int (59) 0, .int (4) 0, .ref 79]⟩, ⟨[]⟩⟩
noncomputable def o27v1 (P : Params) : Obj := ⟨.type "code", none, .fields ⟨[.str ⟨⟨[87, 104, 105, 116, 101, 115, 112, 97, 99, 101]⟩⟩ 198, .str ⟨⟨[87, 104, 105, 116, 101, 115, 112, 97, 99, 101]⟩⟩ 199, .str ⟨⟨[47, 99, 108, 97, 105, 109, 47, 99, 117, 116, 46, 112, 121]⟩⟩ 200, .int (5) 0, .int (0) 0, .int (0) 0, .int (0) 0, .int (0) 0, .ref 25, .bool false, .int (181) 0, .ref 26, .none, .none, .none, .none, .int (201) 0, .int (5) 0, .str ⟨⟨[47, 99, 108, 97, 105, 109, 47, 99, 117, 116, 46, 112, 121]⟩⟩ 202]⟩, ⟨[]⟩⟩
noncomputable def o28v1 (P : Params) : Obj := ⟨.type "frame", none, .plain, ⟨[some (.ref 27), some (.ref 3), some (.ref 24), none, some (.str ⟨⟨[99, 112, 121, 51, 49, 51, 46, 116, 97, 98, 110, 97, 110, 110, 121]⟩⟩ 194), none, some (.ref 0)]⟩⟩
noncomputable def o29v1 (P : Params) : Obj := ⟨.type "str_ascii_iterator", none, .fields ⟨[.none, .int (2) 0]⟩, ⟨[]⟩⟩
noncomputable def o30v1 (P : Params) : Obj := ⟨.type "tuple", none, .seq ⟨[]⟩ 0, ⟨[]⟩⟩
noncomputable def o31v1 (P : Params) : Obj := ⟨.type "StopIteration", none, .fields ⟨[.ref 30, .none, .none, .none, .bool false, .none]⟩, ⟨[]⟩⟩
noncomputable def o32v1 (P : Params) : Obj := ⟨.type "tuple", none, .seq ⟨[]⟩ 0, ⟨[]⟩⟩
noncomputable def o33v1 (P : Params) : Obj := ⟨.none, none, .fields ⟨[]⟩, ⟨[]⟩⟩
noncomputable def o34v1 (P : Params) : Obj := ⟨.type "tuple", none, .seq ⟨[.str ⟨⟨[115, 101, 108, 102]⟩⟩ 216, .str ⟨⟨[119, 115]⟩⟩ 217, .str ⟨⟨[83]⟩⟩ 218, .str ⟨⟨[84]⟩⟩ 219, .str ⟨⟨[99, 111, 117, 110, 116]⟩⟩ 220, .str ⟨⟨[98]⟩⟩ 221, .str ⟨⟨[110]⟩⟩ 222, .str ⟨⟨[110, 116]⟩⟩ 223, .str ⟨⟨[99, 104]⟩⟩ 224]⟩ 0, ⟨[]⟩⟩
noncomputable def o35v1 (P : Params) : Obj := ⟨.type "tuple", none, .seq ⟨[]⟩ 0, ⟨[]⟩⟩
noncomputable def o36v1 (P : Params) : Obj := ⟨.none, none, .func ⟨⟨⟨[95, 95, 105, 110, 105, 116, 95, 95]⟩⟩, ⟨⟨[87, 104, 105, 116, 101, 115, 112, 97, 99, 101, 46, 95, 95, 105, 110, 105, 116, 95, 95]⟩⟩, argsOf (methSt 1), .stmts (bodyOf (methSt 1)), scopeOf (methSt 1), 0, [], .none, .none, .none, .none, none, .none, .none, 0⟩, ⟨[]⟩⟩
noncomputable def o37v1 (P : Params) : Obj := ⟨.type "code", none, .fields ⟨[.str ⟨⟨[95, 95, 105, 110, 105, 116, 95, 95]⟩⟩ 213, .str ⟨⟨[87, 104, 105, 116, 101, 115, 112, 97, 99, 101, 46, 95, 95, 105, 110, 105, 116, 95, 95]⟩⟩ 214, .str ⟨⟨[47, 99, 108, 97, 105, 109, 47, 99, 117, 116, 46, 112, 121]⟩⟩ 215, .int (8) 0, .int (2) 0, .int (0) 0, .int (0) 0, .int (3) 0, .ref 32, .bool true, .int (181) 0, .ref 33, .none, .ref 34, .ref 35, .ref 36, .int (225) 0, .int (8) 0, .str ⟨⟨[47, 99, 108, 97, 105, 109, 47, 99, 117, 116, 46, 112, 121]⟩⟩ 226]⟩, ⟨[]⟩⟩
noncomputable def o38v1 (P : Params) : Obj := ⟨.type "function", none, .func ⟨⟨⟨[95, 95, 105, 110, 105, 116, 95, 95]⟩⟩, ⟨⟨[87, 104, 105, 116, 101, 115, 112, 97, 99, 101, 46, 95, 95, 105, 110, 105, 116, 95, 95]⟩⟩, argsOf (methSt 1), .stmts (bodyOf (methSt 1)), scopeOf (methSt 1), 3, [], .none, .none, .none, .str ⟨⟨[99, 112, 121, 51, 49, 51, 46, 116, 97, 98, 110, 97, 110, 110, 121]⟩⟩ 194, none, .ref 37, .none, 0⟩, ⟨[]⟩⟩
noncomputable def o39v1 (P : Params) : Obj := ⟨.type "tuple", none, .seq ⟨[]⟩ 0, ⟨[]⟩⟩
noncomputable def o40v1 (P : Params) : Obj := ⟨.none, none, .fields ⟨[]⟩, ⟨[]⟩⟩
noncomputable def o41v1 (P : Params) : Obj := ⟨.type "tuple", none, .seq ⟨[.str ⟨⟨[115, 101, 108, 102]⟩⟩ 231, .str ⟨⟨[99, 111, 117, 110, 116]⟩⟩ 232, .str ⟨⟨[116, 114, 97, 105, 108, 105, 110, 103]⟩⟩ 233]⟩ 0, ⟨[]⟩⟩
noncomputable def o42v1 (P : Params) : Obj := ⟨.type "tuple", none, .seq ⟨[]⟩ 0, ⟨[]⟩⟩
noncomputable def o43v1 (P : Params) : Obj := ⟨.none, none, .func ⟨⟨⟨[108, 111, 110, 103, 101, 115, 116, 95, 114, 117, 110, 95, 111, 102, 95, 115, 112, 97, 99, 101, 115]⟩⟩, ⟨⟨[87, 104, 105, 116, 101, 115, 112, 97, 99, 101, 46, 108, 111, 110, 103, 101, 115, 116, 95, 114, 117, 110, 95, 111, 102, 95, 115, 112, 97, 99, 101, 115]⟩⟩, argsOf (methSt 2), .stmts (bodyOf (methSt 2)), scopeOf (methSt 2), 0, [], .none, .none, .none, .none, none, .none, .none, 0⟩, ⟨[]⟩⟩
noncomputable def o44v1 (P : Params) : Obj := ⟨.type "code", none, .fields ⟨[.str ⟨⟨[108, 111, 110, 103, 101, 115, 116, 95, 114, 117, 110, 95, 111, 102, 95, 115, 112, 97, 99, 101, 115]⟩⟩ 228, .str ⟨⟨[87, 104, 105, 116, 101, 115, 112, 97, 99, 101, 46, 108, 111, 110, 103, 101, 115, 116, 95, 114, 117, 110, 95, 111, 102, 95, 115, 112, 97, 99, 101, 115]⟩⟩ 229, .str ⟨⟨[47, 99, 108, 97, 105, 109, 47, 99, 117, 116, 46, 112, 121]⟩⟩ 230, .int (31) 0, .int (1) 0, .int (0) 0, .int (0) 0, .int (3) 0, .ref 39, .bool true, .int (181) 0, .ref 40, .none, .ref 41, .ref 42, .ref 43, .int (234) 0, .int (31) 0, .str ⟨⟨[47, 99, 108, 97, 105, 109, 47, 99, 117, 116, 46, 112, 121]⟩⟩ 235]⟩, ⟨[]⟩⟩
noncomputable def o45v1 (P : Params) : Obj := ⟨.type "function", none, .func ⟨⟨⟨[108, 111, 110, 103, 101, 115, 116, 95, 114, 117, 110, 95, 111, 102, 95, 115, 112, 97, 99, 101, 115]⟩⟩, ⟨⟨[87, 104, 105, 116, 101, 115, 112, 97, 99, 101, 46, 108, 111, 110, 103, 101, 115, 116, 95, 114, 117, 110, 95, 111, 102, 95, 115, 112, 97, 99, 101, 115]⟩⟩, argsOf (methSt 2), .stmts (bodyOf (methSt 2)), scopeOf (methSt 2), 3, [], .none, .none, .none, .str ⟨⟨[99, 112, 121, 51, 49, 51, 46, 116, 97, 98, 110, 97, 110, 110, 121]⟩⟩ 194, none, .ref 44, .none, 0⟩, ⟨[]⟩⟩
noncomputable def o46v1 (P : Params) : Obj := ⟨.type "tuple", none, .seq ⟨[]⟩ 0, ⟨[]⟩⟩
noncomputable def o47v1 (P : Params) : Obj := ⟨.none, none, .fields ⟨[]⟩, ⟨[]⟩⟩
noncomputable def o48v1 (P : Params) : Obj := ⟨.type "tuple", none, .seq ⟨[.str ⟨⟨[115, 101, 108, 102]⟩⟩ 240, .str ⟨⟨[116, 97, 98, 115, 105, 122, 101]⟩⟩ 241, .str ⟨⟨[99, 111, 117, 110, 116]⟩⟩ 242, .str ⟨⟨[116, 114, 97, 105, 108, 105, 110, 103]⟩⟩ 243, .str ⟨⟨[105, 108]⟩⟩ 244, .str ⟨⟨[105]⟩⟩ 245]⟩ 0, ⟨[]⟩⟩
noncomputable def o49v1 (P : Params) : Obj := ⟨.type "tuple", none, .seq ⟨[]⟩ 0, ⟨[]⟩⟩
noncomputable def o50v1 (P : Params) : Obj := ⟨.none, none, .func ⟨⟨⟨[105, 110, 100, 101, 110, 116, 95, 108, 101, 118, 101, 108]⟩⟩, ⟨⟨[87, 104, 105, 116, 101, 115, 112, 97, 99, 101, 46, 105, 110, 100, 101, 110, 116, 95, 108, 101, 118, 101, 108]⟩⟩, argsOf (methSt 3), .stmts (bodyOf (methSt 3)), scopeOf (methSt 3), 0, [], .none, .none, .none, .none, none, .none, .none, 0⟩, ⟨[]⟩⟩
noncomputable def o51v1 (P : Params) : Obj := ⟨.type "code", none, .fields ⟨[.str ⟨⟨[105, 110, 100, 101, 110, 116, 95, 108, 101, 118, 101, 108]⟩⟩ 237, .str ⟨⟨[87, 104, 105, 116, 101, 115, 112, 97, 99, 101, 46, 105, 110, 100, 101, 110, 116, 95, 108, 101, 118, 101, 108]⟩⟩ 238, .str ⟨⟨[47, 99, 108, 97, 105, 109, 47, 99, 117, 116, 46, 112, 121]⟩⟩ 239, .int (35) 0, .int (2) 0, .int (0) 0, .int (0) 0, .int (3) 0, .ref 46, .bool true, .int (181) 0, .ref 47, .none, .ref 48, .ref 49, .ref 50, .int (246) 0, .int (35) 0, .str ⟨⟨[47, 99, 108, 97, 105, 109, 47, 99, 117, 116, 46, 112, 121]⟩⟩ 247]⟩, ⟨[]⟩⟩
noncomputable def o52v1 (P : Params) : Obj := ⟨.type "function", none, .func ⟨⟨⟨[105, 110, 100, 101, 110, 116, 95, 108, 101, 118, 101, 108]⟩⟩, ⟨⟨[87, 104, 105, 116, 101, 115, 112, 97, 99, 101, 46, 105, 110, 100, 101, 110, 116, 95, 108, 101, 118, 101, 108]⟩⟩, argsOf (methSt 3), .stmts (bodyOf (methSt 3)), scopeOf (methSt 3), 3, [], .none, .none, .none, .str ⟨⟨[99, 112, 121, 51, 49, 51, 46, 116, 97, 98, 110, 97, 110, 110, 121]⟩⟩ 194, none, .ref 51, .none, 0⟩, ⟨[]⟩⟩
noncomputable def o53v1 (P : Params) : Obj := ⟨.type "tuple", none, .seq ⟨[]⟩ 0, ⟨[]⟩⟩
noncomputable def o54v1 (P : Params) : Obj := ⟨.none, none, .fields ⟨[]⟩, ⟨[]⟩⟩
noncomputable def o55v1 (P : Params) : Obj := ⟨.type "tuple", none, .seq ⟨[.str ⟨⟨[115, 101, 108, 102]⟩⟩ 252, .str ⟨⟨[111, 116, 104, 101, 114]⟩⟩ 253]⟩ 0, ⟨[]⟩⟩
noncomputable def o56v1 (P : Params) : Obj := ⟨.type "tuple", none, .seq ⟨[]⟩ 0, ⟨[]⟩⟩
noncomputable def o57v1 (P : Params) : Obj := ⟨.none, none, .func ⟨⟨⟨[101, 113, 117, 97, 108]⟩⟩, ⟨⟨[87, 104, 105, 116, 101, 115, 112, 97, 99, 101, 46, 101, 113, 117, 97, 108]⟩⟩, argsOf (methSt 4), .stmts (bodyOf (methSt 4)), scopeOf (methSt 4), 0, [], .none, .none, .none, .none, none, .none, .none, 0⟩, ⟨[]⟩⟩
noncomputable def o58v1 (P : Params) : Obj := ⟨.type "code", none, .fields ⟨[.str ⟨⟨[101, 113, 117, 97, 108]⟩⟩ 249, .str ⟨⟨[87, 104, 105, 116, 101, 115, 112, 97, 99, 101, 46, 101, 113, 117, 97, 108]⟩⟩ 250, .str ⟨⟨[47, 99, 108, 97, 105, 109, 47, 99, 117, 116, 46, 112, 121]⟩⟩ 251, .int (42) 0, .int (2) 0, .int (0) 0, .int (0) 0, .int (3) 0, .ref 53, .bool true, .int (181) 0, .ref 54, .none, .ref 55, .ref 56, .ref 57, .int (254) 0, .int (42) 0, .str ⟨⟨[47, 99, 108, 97, 105, 109, 47, 99, 117, 116, 46, 112, 121]⟩⟩ 255]⟩, ⟨[]⟩⟩
noncomputable def o59v1 (P : Params) : Obj := ⟨.type "function", none, .func ⟨⟨⟨[101, 113, 117, 97, 108]⟩⟩, ⟨⟨[87, 104, 105, 116, 101, 115, 112, 97, 99, 101, 46, 101, 113, 117, 97, 108]⟩⟩, argsOf (methSt 4), .stmts (bodyOf (methSt 4)), scopeOf (methSt 4), 3, [], .none, .none, .none, .str ⟨⟨[99, 112, 121, 51, 49, 51, 46, 116, 97, 98, 110, 97, 110, 110, 121]⟩⟩ 194, none, .ref 58, .none, 0⟩, ⟨[]⟩⟩
noncomputable def o60v1 (P : Params) : Obj := ⟨.type "tuple", none, .seq ⟨[]⟩ 0, ⟨[]⟩⟩
noncomputable def o61v1 (P : Params) : Obj := ⟨.none, none, .fields ⟨[]⟩, ⟨[]⟩⟩
noncomputable def o62v1 (P : Params) : Obj := ⟨.type "tuple", none, .seq ⟨[.str ⟨⟨[115, 101, 108, 102]⟩⟩ 260, .str ⟨⟨[111, 116, 104, 101, 114]⟩⟩ 261]⟩ 0, ⟨[]⟩⟩
noncomputable def o63v1 (P : Params) : Obj := ⟨.type "tuple", none, .seq ⟨[]⟩ 0, ⟨[]⟩⟩
noncomputable def o64v1 (P : Params) : Obj := ⟨.none, none, .func ⟨⟨⟨[110, 111, 116, 95, 101, 113, 117, 97, 108, 95, 119, 105, 116, 110, 101, 115, 115]⟩⟩, ⟨⟨[87, 104, 105, 116, 101, 115, 112, 97, 99, 101, 46, 110, 111, 116, 95, 101, 113, 117, 97, 108, 95, 119, 105, 116, 110, 101, 115, 115]⟩⟩, argsOf (methSt 5), .stmts (bodyOf (methSt 5)), scopeOf (methSt 5), 0, [], .none, .none, .none, .none, none, .none, .none, 0⟩, ⟨[]⟩⟩
noncomputable def o65v1 (P : Params) : Obj := ⟨.type "code", none, .fields ⟨[.str ⟨⟨[110, 111, 116, 95, 101, 113, 117, 97, 108, 95, 119, 105, 116, 110, 101, 115, 115]⟩⟩ 257, .str ⟨⟨[87, 104, 105, 116, 101, 115, 112, 97, 99, 101, 46, 110, 111, 116, 95, 101, 113, 117, 97, 108, 95, 119, 105, 116, 110, 101, 115, 115]⟩⟩ 258, .str ⟨⟨[47, 99, 108, 97, 105, 109, 47, 99, 117, 116, 46, 112, 121]⟩⟩ 259, .int (45) 0, .int (2) 0, .int (0) 0, .int (0) 0, .int (3) 0, .ref 60, .bool true, .int (181) 0, .ref 61, .none, .ref 62, .ref 63, .ref 64, .int (262) 0, .int (45) 0, .str ⟨⟨[47, 99, 108, 97, 105, 109, 47, 99, 117, 116, 46, 112, 121]⟩⟩ 263]⟩, ⟨[]⟩⟩
noncomputable def o66v1 (P : Params) : Obj := ⟨.type "function", none, .func ⟨⟨⟨[110, 111, 116, 95, 101, 113, 117, 97, 108, 95, 119, 105, 116, 110, 101, 115, 115]⟩⟩, ⟨⟨[87, 104, 105, 116, 101, 115, 112, 97, 99, 101, 46, 110, 111, 116, 95, 101, 113, 117, 97, 108, 95, 119, 105, 116, 110, 101, 115, 115]⟩⟩, argsOf (methSt 5), .stmts (bodyOf (methSt 5)), scopeOf (methSt 5), 3, [], .none, .none, .none, .str ⟨⟨[99, 112, 121, 51, 49, 51, 46, 116, 97, 98, 110, 97, 110, 110, 121]⟩⟩ 194, none, .ref 65, .none, 0⟩, ⟨[]⟩⟩
noncomputable def o67v1 (P : Params) : Obj := ⟨.type "tuple", none, .seq ⟨[]⟩ 0, ⟨[]⟩⟩
noncomputable def o68v1 (P : Params) : Obj := ⟨.none, none, .fields ⟨[]⟩, ⟨[]⟩⟩
noncomputable def o69v1 (P : Params) : Obj := ⟨.type "tuple", none, .seq ⟨[.str ⟨⟨[115, 101, 108, 102]⟩⟩ 268, .str ⟨⟨[111, 116, 104, 101, 114]⟩⟩ 269, .str ⟨⟨[110]⟩⟩ 270, .str ⟨⟨[116, 115]⟩⟩ 271]⟩ 0, ⟨[]⟩⟩
noncomputable def o70v1 (P : Params) : Obj := ⟨.type "tuple", none, .seq ⟨[]⟩ 0, ⟨[]⟩⟩
noncomputable def o71v1 (P : Params) : Obj := ⟨.none, none, .func ⟨⟨⟨[108, 101, 115, 115]⟩⟩, ⟨⟨[87, 104, 105, 116, 101, 115, 112, 97, 99, 101, 46, 108, 101, 115, 115]⟩⟩, argsOf (methSt 6), .stmts (bodyOf (methSt 6)), scopeOf (methSt 6), 0, [], .none, .none, .none, .none, none, .none, .none, 0⟩, ⟨[]⟩⟩
noncomputable def o72v1 (P : Params) : Obj := ⟨.type "code", none, .fields ⟨[.str ⟨⟨[108, 101, 115, 115]⟩⟩ 265, .str ⟨⟨[87, 104, 105, 116, 101, 115, 112, 97, 99, 101, 46, 108, 101, 115, 115]⟩⟩ 266, .str ⟨⟨[47, 99, 108, 97, 105, 109, 47, 99, 117, 116, 46, 112, 121]⟩⟩ 267, .int (48) 0, .int (2) 0, .int (0) 0, .int (0) 0, .int (3) 0, .ref 67, .bool true, .int (181) 0, .ref 68, .none, .ref 69, .ref 70, .ref 71, .int (272) 0, .int (48) 0, .str ⟨⟨[47, 99, 108, 97, 105, 109, 47, 99, 117, 116, 46, 112, 121]⟩⟩ 273]⟩, ⟨[]⟩⟩
noncomputable def o73v1 (P : Params) : Obj := ⟨.type "function", none, .func ⟨⟨⟨[108, 101, 115, 115]⟩⟩, ⟨⟨[87, 104, 105, 116, 101, 115, 112, 97, 99, 101, 46, 108, 101, 115, 115]⟩⟩, argsOf (methSt 6), .stmts (bodyOf (methSt 6)), scopeOf (methSt 6), 3, [], .none, .none, .none, .str ⟨⟨[99, 112, 121, 51, 49, 51, 46, 116, 97, 98, 110, 97, 110, 110, 121]⟩⟩ 194, none, .ref 72, .none, 0⟩, ⟨[]⟩⟩
noncomputable def o74v1 (P : Params) : Obj := ⟨.type "tuple", none, .seq ⟨[]⟩ 0, ⟨[]⟩⟩
noncomputable def o75v1 (P : Params) : Obj := ⟨.none, none, .fields ⟨[]⟩, ⟨[]⟩⟩
noncomputable def o76v1 (P : Params) : Obj := ⟨.type "tuple", none, .seq ⟨[.str ⟨⟨[115, 101, 108, 102]⟩⟩ 278, .str ⟨⟨[111, 116, 104, 101, 114]⟩⟩ 279]⟩ 0, ⟨[]⟩⟩
noncomputable def o77v1 (P : Params) : Obj := ⟨.type "tuple", none, .seq ⟨[]⟩ 0, ⟨[]⟩⟩
noncomputable def o78v1 (P : Params) : Obj := ⟨.none, none, .func ⟨⟨⟨[110, 111, 116, 95, 108, 101, 115, 115, 95, 119, 105, 116, 110, 101, 115, 115]⟩⟩, ⟨⟨[87, 104, 105, 116, 101, 115, 112, 97, 99, 101, 46, 110, 111, 116, 95, 108, 101, 115, 115, 95, 119, 105, 116, 110, 101, 115, 115]⟩⟩, argsOf (methSt 7), .stmts (bodyOf (methSt 7)), scopeOf (methSt 7), 0, [], .none, .none, .none, .none, none, .none, .none, 0⟩, ⟨[]⟩⟩
noncomputable def o79v1 (P : Params) : Obj := ⟨.type "code", none, .fields ⟨[.str ⟨⟨[110, 111, 116, 95, 108, 101, 115, 115, 95, 119, 105, 116, 110, 101, 115, 115]⟩⟩ 275, .str ⟨⟨[87, 104, 105, 116, 101, 115, 112, 97, 99, 101, 46, 110, 111, 116, 95, 108, 101, 115, 115, 95, 119, 105, 116, 110, 101, 115, 115]⟩⟩ 276, .str ⟨⟨[47, 99, 108, 97, 105, 109, 47, 99, 117, 116, 46, 112, 121]⟩⟩ 277, .int (59) 0, .int (2) 0, .int (0) 0, .int (0) 0, .int (3) 0, .ref 74, .bool true, .int (181) 0, .ref 75, .none, .ref 76, .ref 77, .ref 78, .int (280) 0, .int (59) 0, .str ⟨⟨[47, 99, 108, 97, 105, 109, 47, 99, 117, 116, 46, 112, 121]⟩⟩ 281]⟩, ⟨[]⟩⟩
noncomputable def o80v1 (P : Params) : Obj := ⟨.type "function", none, .func ⟨⟨⟨[110, 111, 116, 95, 108, 101, 115, 115, 95, 119, 105, 116, 110, 101, 115, 115]⟩⟩, ⟨⟨[87, 104, 105, 116, 101, 115, 112, 97, 99, 101, 46, 110, 111, 116, 95, 108, 101, 115, 115, 95, 119, 105, 116, 110, 101, 115, 115]⟩⟩, argsOf (methSt 7), .stmts (bodyOf (methSt 7)), scopeOf (methSt 7), 3, [], .none, .none, .none, .str ⟨⟨[99, 112, 121, 51, 49, 51, 46, 116, 97, 98, 110, 97, 110, 110, 121]⟩⟩ 194, none, .ref 79, .none, 0⟩, ⟨[]⟩⟩
noncomputable def o81v1 (P : Params) : Obj := ⟨.type "tuple", none, .seq ⟨[.str ⟨⟨[105, 115, 95, 115, 105, 109, 112, 108, 101]⟩⟩ 283, .str ⟨⟨[110]⟩⟩ 284, .str ⟨⟨[110, 111, 114, 109]⟩⟩ 285, .str ⟨⟨[110, 116]⟩⟩ 286, .str ⟨⟨[114, 97, 119]⟩⟩ 287]⟩ 0, ⟨[]⟩⟩
noncomputable def o82v1 (P : Params) : Obj := ⟨.type "dict", none, .dict ⟨[⟨PyData.keyHash P ⟨⟨[95, 95, 109, 111, 100, 117, 108, 101, 95, 95]⟩⟩, .str ⟨⟨[95, 95, 109, 111, 100, 117, 108, 101, 95, 95]⟩⟩ 203, .str ⟨⟨[99, 112, 121, 51, 49, 51, 46, 116, 97, 98, 110, 97, 110, 110, 121]⟩⟩ 194⟩, ⟨PyData.keyHash P ⟨⟨[95, 95, 102, 105, 114, 115, 116, 108, 105, 110, 101, 110, 111, 95, 95]⟩⟩, .str ⟨⟨[95, 95, 102, 105, 114, 115, 116, 108, 105, 110, 101, 110, 111, 95, 95]⟩⟩ 207, .int (5) 206⟩, ⟨PyData.keyHash P ⟨⟨[83]⟩⟩, .str ⟨⟨[83]⟩⟩ 211, .str ⟨⟨[32]⟩⟩ 209⟩, ⟨PyData.keyHash P ⟨⟨[84]⟩⟩, .str ⟨⟨[84]⟩⟩ 212, .str ⟨⟨[9]⟩⟩ 210⟩, ⟨PyData.keyHash P ⟨⟨[95, 95, 105, 110, 105, 116, 95, 95]⟩⟩, .str ⟨⟨[95, 95, 105, 110, 105, 116, 95, 95]⟩⟩ 227, .ref 38⟩, ⟨PyData.keyHash P ⟨⟨[108, 111, 110, 103, 101, 115, 116, 95, 114, 117, 110, 95, 111, 102, 95, 115, 112, 97, 99, 101, 115]⟩⟩, .str ⟨⟨[108, 111, 110, 103, 101, 115, 116, 95, 114, 117, 110, 95, 111, 102, 95, 115, 112, 97, 99, 101, 115]⟩⟩ 236, .ref 45⟩, ⟨PyData.keyHash P ⟨⟨[105, 110, 100, 101, 110, 116, 95, 108, 101, 118, 101, 108]⟩⟩, .str ⟨⟨[105, 110, 100, 101, 110, 116, 95, 108, 101, 118, 101, 108]⟩⟩ 248, .ref 52⟩, ⟨PyData.keyHash P ⟨⟨[101, 113, 117, 97, 108]⟩⟩, .str ⟨⟨[101, 113, 117, 97, 108]⟩⟩ 256, .ref 59⟩, ⟨PyData.keyHash P ⟨⟨[110, 111, 116, 95, 101, 113, 117, 97, 108, 95, 119, 105, 116, 110, 101, 115, 115]⟩⟩, .str ⟨⟨[110, 111, 116, 95, 101, 113, 117, 97, 108, 95, 119, 105, 116, 110, 101, 115, 115]⟩⟩ 264, .ref 66⟩, ⟨PyData.keyHash P ⟨⟨[108, 101, 115, 115]⟩⟩, .str ⟨⟨[108, 101, 115, 115]⟩⟩ 274, .ref 73⟩, ⟨PyData.keyHash P ⟨⟨[110, 111, 116, 95, 108, 101, 115, 115, 95, 119, 105, 116, 110, 101, 115, 115]⟩⟩, .str ⟨⟨[110, 111, 116, 95, 108, 101, 115, 115, 95, 119, 105, 116, 110, 101, 115, 115]⟩⟩ 282, .ref 80⟩, ⟨PyData.keyHash P ⟨⟨[95, 95, 115, 116, 97, 116, 105, 99, 95, 97, 116, 116, 114, 105, 98, 117, 116, 101, 115, 95, 95]⟩⟩, .str ⟨⟨[95, 95, 115, 116, 97, 116, 105, 99, 95, 97, 116, 116, 114, 105, 98, 117, 116, 101, 115, 95, 95]⟩⟩ 288, .ref 81⟩, ⟨PyData.keyHash P ⟨⟨[95, 95, 100, 105, 99, 116, 95, 95]⟩⟩, .str ⟨⟨[95, 95, 100, 105, 99, 116, 95, 95]⟩⟩ 290, .ref 84⟩, ⟨PyData.keyHash P ⟨⟨[95, 95, 119, 101, 97, 107, 114, 101, 102, 95, 95]⟩⟩, .str ⟨⟨[95, 95, 119, 101, 97, 107, 114, 101, 102, 95, 95]⟩⟩ 292, .ref 85⟩, ⟨PyData.keyHash P ⟨⟨[95, 95, 100, 111, 99, 95, 95]⟩⟩, .str ⟨⟨[95, 95, 100, 111, 99, 95, 95]⟩⟩ 293, .none⟩]⟩ 4, ⟨[]⟩⟩
noncomputable def o83v1 (P : Params) : Obj := ⟨.type "type", none, .cls ⟨⟨⟨[87, 104, 105, 116, 101, 115, 112, 97, 99, 101]⟩⟩, [.type "object"], [.ref 83, .type "object"], 82, ⟨⟨[87, 104, 105, 116, 101, 115, 112, 97, 99, 101]⟩⟩, true, [], [], false, none, false⟩, ⟨[none, none, some (.str ⟨⟨[87, 104, 105, 116, 101, 115, 112, 97, 99, 101]⟩⟩ 196), some (.str ⟨⟨[87, 104, 105, 116, 101, 115, 112, 97, 99, 101]⟩⟩ 204), some (.builtin "object.__new__"), some (.bool true)]⟩⟩
noncomputable def o84v1 (P : Params) : Obj := ⟨.type "getset_descriptor", none, .fields ⟨[.str ⟨⟨[95, 95, 100, 105, 99, 116, 95, 95]⟩⟩ 289, .ref 83, .builtin "function.__dict__", .builtin "function.__dict__#set"]⟩, ⟨[]⟩⟩
noncomputable def o85v1 (P : Params) : Obj := ⟨.type "getset_descriptor", none, .fields ⟨[.str ⟨⟨[95, 95, 119, 101, 97, 107, 114, 101, 102, 95, 95]⟩⟩ 291, .ref 83, .builtin "ExceptionGroup.__weakref__", .none]⟩, ⟨[]⟩⟩
noncomputable def o86v1 (P : Params) : Obj := ⟨.type "super", none, .fields ⟨[.ref 83, .ref 83, .ref 83]⟩, ⟨[]⟩⟩
noncomputable def o87v1 (P : Params) : Obj := ⟨.type "builtin_function_or_method", none, .fields ⟨[.builtin "object.__init_subclass__", .ref 83]⟩, ⟨[]⟩⟩
noncomputable def o3v4 (P : Params) : Obj := ⟨.type "dict", none, .dict ⟨[⟨PyData.keyHash P ⟨⟨[95, 95, 110, 97, 109, 101, 95, 95]⟩⟩, .str ⟨⟨[95, 95, 110, 97, 109, 101, 95, 95]⟩⟩ 165, .str ⟨⟨[99, 112, 121, 51, 49, 51, 46, 115, 116, 114, 105, 110, 103, 112, 114, 101, 112]⟩⟩ 296⟩, ⟨PyData.keyHash P ⟨⟨[95, 95, 100, 111, 99, 95, 95]⟩⟩, .str ⟨⟨[95, 95, 100, 111, 99, 95, 95]⟩⟩ 166, .none⟩, ⟨PyData.keyHash P ⟨⟨[95, 95, 112, 97, 99, 107, 97, 103, 101, 95, 95]⟩⟩, .str ⟨⟨[95, 95, 112, 97, 99, 107, 97, 103, 101, 95, 95]⟩⟩ 167, .none⟩, ⟨PyData.keyHash P ⟨⟨[95, 95, 108, 111, 97, 100, 101, 114, 95, 95]⟩⟩, .str ⟨⟨[95, 95, 108, 111, 97, 100, 101, 114, 95, 95]⟩⟩ 168, .builtin "__main__.__loader__#op\x61que"⟩, ⟨PyData.keyHash P ⟨⟨[95, 95, 115, 112, 101, 99, 95, 95]⟩⟩, .str ⟨⟨[95, 95, 115, 112, 101, 99, 95, 95]⟩⟩ 169, .none⟩, ⟨PyData.keyHash P ⟨⟨[95, 95, 97, 110, 110, 111, 116, 97, 116, 105, 111, 110, 115, 95, 95]⟩⟩, .str ⟨⟨[95, 95, 97, 110, 110, 111, 116, 97, 116, 105, 111, 110, 115, 95, 95]⟩⟩ 170, .ref 6⟩, ⟨PyData.keyHash P ⟨⟨[95, 95, 98, 117, 105, 108, 116, 105, 110, 115, 95, 95]⟩⟩, .str ⟨⟨[95, 95, 98, 117, 105, 108, 116, 105, 110, 115, 95, 95]⟩⟩ 171, .ref 4⟩, ⟨PyData.keyHash P ⟨⟨[95, 95, 102, 105, 108, 101, 95, 95]⟩⟩, .str ⟨⟨[95, 95, 102, 105, 108, 101, 95, 95]⟩⟩ 173, .str ⟨⟨[47, 99, 108, 97, 105, 109, 47, 99, 117, 116, 46, 112, 121]⟩⟩ 172⟩, ⟨PyData.keyHash P ⟨⟨[95, 95, 99, 97, 99, 104, 101, 100, 95, 95]⟩⟩, .str ⟨⟨[95, 95, 99, 97, 99, 104, 101, 100, 95, 95]⟩⟩ 174, .none⟩, ⟨PyData.keyHash P ⟨⟨[95, 119, 97, 108, 108]⟩⟩, .str ⟨⟨[95, 119, 97, 108, 108]⟩⟩ 193, .ref 21⟩, ⟨PyData.keyHash P ⟨⟨[87, 104, 105, 116, 101, 115, 112, 97, 99, 101]⟩⟩, .str ⟨⟨[87, 104, 105, 116, 101, 115, 112, 97, 99, 101]⟩⟩ 295, .ref 83⟩]⟩ 11, ⟨[]⟩⟩
noncomputable def o3v5 (P : Params) : Obj := ⟨.type "dict", none, .dict ⟨[⟨PyData.keyHash P ⟨⟨[95, 95, 110, 97, 109, 101, 95, 95]⟩⟩, .str ⟨⟨[95, 95, 110, 97, 109, 101, 95, 95]⟩⟩ 165, .str ⟨⟨[99, 112, 121, 51, 49, 51, 46, 115, 116, 114, 105, 110, 103, 112, 114, 101, 112]⟩⟩ 296⟩, ⟨PyData.keyHash P ⟨⟨[95, 95, 100, 111, 99, 95, 95]⟩⟩, .str ⟨⟨[95, 95, 100, 111, 99, 95, 95]⟩⟩ 166, .none⟩, ⟨PyData.keyHash P ⟨⟨[95, 95, 112, 97, 99, 107, 97, 103, 101, 95, 95]⟩⟩, .str ⟨⟨[95, 95, 112, 97, 99, 107, 97, 103, 101, 95, 95]⟩⟩ 167, .none⟩, ⟨PyData.keyHash P ⟨⟨[95, 95, 108, 111, 97, 100, 101, 114, 95, 95]⟩⟩, .str ⟨⟨[95, 95, 108, 111, 97, 100, 101, 114, 95, 95]⟩⟩ 168, .builtin "__main__.__loader__#op\x61que"⟩, ⟨PyData.keyHash P ⟨⟨[95, 95, 115, 112, 101, 99, 95, 95]⟩⟩, .str ⟨⟨[95, 95, 115, 112, 101, 99, 95, 95]⟩⟩ 169, .none⟩, ⟨PyData.keyHash P ⟨⟨[95, 95, 97, 110, 110, 111, 116, 97, 116, 105, 111, 110, 115, 95, 95]⟩⟩, .str ⟨⟨[95, 95, 97, 110, 110, 111, 116, 97, 116, 105, 111, 110, 115, 95, 95]⟩⟩ 170, .ref 6⟩, ⟨PyData.keyHash P ⟨⟨[95, 95, 98, 117, 105, 108, 116, 105, 110, 115, 95, 95]⟩⟩, .str ⟨⟨[95, 95, 98, 117, 105, 108, 116, 105, 110, 115, 95, 95]⟩⟩ 171, .ref 4⟩, ⟨PyData.keyHash P ⟨⟨[95, 95, 102, 105, 108, 101, 95, 95]⟩⟩, .str ⟨⟨[95, 95, 102, 105, 108, 101, 95, 95]⟩⟩ 173, .str ⟨⟨[47, 99, 108, 97, 105, 109, 47, 99, 117, 116, 46, 112, 121]⟩⟩ 172⟩, ⟨PyData.keyHash P ⟨⟨[95, 95, 99, 97, 99, 104, 101, 100, 95, 95]⟩⟩, .str ⟨⟨[95, 95, 99, 97, 99, 104, 101, 100, 95, 95]⟩⟩ 174, .none⟩, ⟨PyData.keyHash P ⟨⟨[95, 119, 97, 108, 108]⟩⟩, .str ⟨⟨[95, 119, 97, 108, 108]⟩⟩ 193, .ref 21⟩, ⟨PyData.keyHash P ⟨⟨[87, 104, 105, 116, 101, 115, 112, 97, 99, 101]⟩⟩, .str ⟨⟨[87, 104, 105, 116, 101, 115, 112, 97, 99, 101]⟩⟩ 295, .ref 83⟩, ⟨PyData.keyHash P ⟨⟨[98, 49, 95, 115, 101, 116]⟩⟩, .str ⟨⟨[98, 49, 95, 115, 101, 116]⟩⟩ 357, .ref 95⟩]⟩ 12, ⟨[]⟩⟩
noncomputable def o88v1 (P : Params) : Obj := ⟨.type "list", none, .seq ⟨[.int (173) 298, .int (847) 299, .int (6150) 300, .int (6155) 301, .int (6156) 302, .int (6157) 303, .int (8203) 304, .int (8204) 305, .int (8205) 306, .int (8288) 307, .int (65279) 308]⟩ 0, ⟨[]⟩⟩
noncomputable def o89v1 (P : Params) : Obj := ⟨.type "range", none, .fields ⟨[.int (65024) 309, .int (65040) 310, .int (1) 311]⟩, ⟨[]⟩⟩
noncomputable def o90v1 (P : Params) : Obj := ⟨.type "list", none, .seq ⟨[.int (65024) 314, .int (65025) 315, .int (65026) 316, .int (65027) 317, .int (65028) 318, .int (65029) 319, .int (65030) 320, .int (65031) 321, .int (65032) 322, .int (65033) 323, .int (65034) 324, .int (65035) 325, .int (65036) 326, .int (65037) 327, .int (65038) 328, .int (65039) 329]⟩ 18, ⟨[]⟩⟩
noncomputable def o91v1 (P : Params) : Obj := ⟨.type "range_iterator", none, .fields ⟨[.int (65040) 0, .int (0) 0, .int (1) 0]⟩, ⟨[]⟩⟩
noncomputable def o92v1 (P : Params) : Obj := ⟨.type "tuple", none, .seq ⟨[]⟩ 0, ⟨[]⟩⟩
noncomputable def o93v1 (P : Params) : Obj := ⟨.type "StopIteration", none, .fields ⟨[.ref 92, .none, .none, .none, .bool false, .none]⟩, ⟨[]⟩⟩
noncomputable def o94v1 (P : Params) : Obj := ⟨.type "list", none, .seq ⟨[.int (173) 298, .int (847) 299, .int (6150) 300, .int (6155) 301, .int (6156) 302, .int (6157) 303, .int (8203) 304, .int (8204) 305, .int (8205) 306, .int (8288) 307, .int (65279) 308, .int (65024) 314, .int (65025) 315, .int (65026) 316, .int (65027) 317, .int (65028) 318, .int (65029) 319, .int (65030) 320, .int (65031) 321, .int (65032) 322, .int (65033) 323, .int (65034) 324, .int (65035) 325, .int (65036) 326, .int (65037) 327, .int (65038) 328, .int (65039) 329]⟩ 0, ⟨[]⟩⟩
noncomputable def o95v1 (P : Params) : Obj := ⟨.type "set", none, .set ⟨[(65024, .int (65024) 314), (65025, .int (65025) 315), (65026, .int (65026) 316), (65027, .int (65027) 317), (65028, .int (65028) 318), (65029, .int (65029) 319), (6150, .int (6150) 300), (65030, .int (65030) 320), (65031, .int (65031) 321), (65032, .int (65032) 322), (65033, .int (65033) 323), (6155, .int (6155) 301), (6156, .int (6156) 302), (6157, .int (6157) 303), (8203, .int (8203) 304), (8204, .int (8204) 305), (8205, .int (8205) 306), (65034, .int (65034) 324), (65035, .int (65035) 325), (65036, .int (65036) 326), (65037, .int (65037) 327), (65038, .int (65038) 328), (65039, .int (65039) 329), (173, .int (173) 298), (847, .int (847) 299), (8288, .int (8288) 307), (65279, .int (65279) 308)]⟩ 29 ⟨127, ⟨[0, 1, 2, 3, 4, 5, 6, 7, 8, 9, 10, 11, 12, 13, 14, 15, 16, 17, 18, 19, 20, 21, 22, 45, 79, 96, 127]⟩, ⟨[]⟩, 0, !P.followText "set-order", 2, true⟩, ⟨[]⟩⟩
noncomputable def o96v1 (P : Params) : Obj := ⟨.type "list_iterator", none, .fields ⟨[.none, .int (27) 0]⟩, ⟨[]⟩⟩
noncomputable def o97v1 (P : Params) : Obj := ⟨.type "tuple", none, .seq ⟨[]⟩ 0, ⟨[]⟩⟩
noncomputable def o98v1 (P : Params) : Obj := ⟨.type "StopIteration", none, .fields ⟨[.ref 97, .none, .none, .none, .bool false, .none]⟩, ⟨[]⟩⟩
noncomputable def o3v6 (P : Params) : Obj := ⟨.type "dict", none, .dict ⟨[⟨PyData.keyHash P ⟨⟨[95, 95, 110, 97, 109, 101, 95, 95]⟩⟩, .str ⟨⟨[95, 95, 110, 97, 109, 101, 95, 95]⟩⟩ 165, .str ⟨⟨[99, 112, 121, 51, 49, 51, 46, 115, 116, 114, 105, 110, 103, 112, 114, 101, 112]⟩⟩ 296⟩, ⟨PyData.keyHash P ⟨⟨[95, 95, 100, 111, 99, 95, 95]⟩⟩, .str ⟨⟨[95, 95, 100, 111, 99, 95, 95]⟩⟩ 166, .none⟩, ⟨PyData.keyHash P ⟨⟨[95, 95, 112, 97, 99, 107, 97, 103, 101, 95, 95]⟩⟩, .str ⟨⟨[95, 95, 112, 97, 99, 107, 97, 103, 101, 95, 95]⟩⟩ 167, .none⟩, ⟨PyData.keyHash P ⟨⟨[95, 95, 108, 111, 97, 100, 101, 114, 95, 95]⟩⟩, .str ⟨⟨[95, 95, 108, 111, 97, 100, 101, 114, 95, 95]⟩⟩ 168, .builtin "__main__.__loader__#op\x61que"⟩, ⟨PyData.keyHash P ⟨⟨[95, 95, 115, 112, 101, 99, 95, 95]⟩⟩, .str ⟨⟨[95, 95, 115, 112, 101, 99, 95, 95]⟩⟩ 169, .none⟩, ⟨PyData.keyHash P ⟨⟨[95, 95, 97, 110, 110, 111, 116, 97, 116, 105, 111, 110, 115, 95, 95]⟩⟩, .str ⟨⟨[95, 95, 97, 110, 110, 111, 116, 97, 116, 105, 111, 110, 115, 95, 95]⟩⟩ 170, .ref 6⟩, ⟨PyData.keyHash P ⟨⟨[95, 95, 98, 117, 105, 108, 116, 105, 110, 115, 95, 95]⟩⟩, .str ⟨⟨[95, 95, 98, 117, 105, 108, 116, 105, 110, 115, 95, 95]⟩⟩ 171, .ref 4⟩, ⟨PyData.keyHash P ⟨⟨[95, 95, 102, 105, 108, 101, 95, 95]⟩⟩, .str ⟨⟨[95, 95, 102, 105, 108, 101, 95, 95]⟩⟩ 173, .str ⟨⟨[47, 99, 108, 97, 105, 109, 47, 99, 117, 116, 46, 112, 121]⟩⟩ 172⟩, ⟨PyData.keyHash P ⟨⟨[95, 95, 99, 97, 99, 104, 101, 100, 95, 95]⟩⟩, .str ⟨⟨[95, 95, 99, 97, 99, 104, 101, 100, 95, 95]⟩⟩ 174, .none⟩, ⟨PyData.keyHash P ⟨⟨[95, 119, 97, 108, 108]⟩⟩, .str ⟨⟨[95, 119, 97, 108, 108]⟩⟩ 193, .ref 21⟩, ⟨PyData.keyHash P ⟨⟨[87, 104, 105, 116, 101, 115, 112, 97, 99, 101]⟩⟩, .str ⟨⟨[87, 104, 105, 116, 101, 115, 112, 97, 99, 101]⟩⟩ 295, .ref 83⟩, ⟨PyData.keyHash P ⟨⟨[98, 49, 95, 115, 101, 116]⟩⟩, .str ⟨⟨[98, 49, 95, 115, 101, 116]⟩⟩ 357, .ref 95⟩, ⟨PyData.keyHash P ⟨⟨[105, 110, 95, 116, 97, 98, 108, 101, 95, 98, 49]⟩⟩, .str ⟨⟨[105, 110, 95, 116, 97, 98, 108, 101, 95, 98, 49]⟩⟩ 364, .ref 105⟩]⟩ 13, ⟨[]⟩⟩
noncomputable def o12v4 (P : Params) : Obj := ⟨.none, none, .fields ⟨[.int (1) 0, .int (0) 0, .ref 20, .int (5) 0, .int (0) 0, .ref 27, .int (63) 0, .int (0) 0, .ref 104]⟩, ⟨[]⟩⟩
noncomputable def o99v1 (P : Params) : Obj := ⟨.type "tuple", none, .seq ⟨[]⟩ 0, ⟨[]⟩⟩
noncomputable def o100v1 (P : Params) : Obj := ⟨.none, none, .fields ⟨[]⟩, ⟨[]⟩⟩
noncomputable def o101v1 (P : Params) : Obj := ⟨.type "tuple", none, .seq ⟨[.str ⟨⟨[99, 111, 100, 101]⟩⟩ 361]⟩ 0, ⟨[]⟩⟩
noncomputable def o102v1 (P : Params) : Obj := ⟨.type "tuple", none, .seq ⟨[]⟩ 0, ⟨[]⟩⟩
noncomputable def o103v1 (P : Params) : Obj := ⟨.none, none, .func ⟨⟨⟨[105, 110, 95, 116, 97, 98, 108, 101, 95, 98, 49]⟩⟩, ⟨⟨[105, 110, 95, 116, 97, 98, 108, 101, 95, 98, 49]⟩⟩, argsOf (topSt 5), .stmts (bodyOf (topSt 5)), scopeOf (topSt 5), 0, [], .none, .none, .none, .none, none, .none, .none, 0⟩, ⟨[]⟩⟩
noncomputable def o104v1 (P : Params) : Obj := ⟨.type "code", none, .fields ⟨[.str ⟨⟨[105, 110, 95, 116, 97, 98, 108, 101, 95, 98, 49]⟩⟩ 358, .str ⟨⟨[105, 110, 95, 116, 97, 98, 108, 101, 95, 98, 49]⟩⟩ 359, .str ⟨⟨[47, 99, 108, 97, 105, 109, 47, 99, 117, 116, 46, 112, 121]⟩⟩ 360, .int (63) 0, .int (1) 0, .int (0) 0, .int (0) 0, .int (3) 0, .ref 99, .bool true, .int (181) 0, .ref 100, .none, .ref 101, .ref 102, .ref 103, .int (362) 0, .int (63) 0, .str ⟨⟨[47, 99, 108, 97, 105, 109, 47, 99, 117, 116, 46, 112, 121]⟩⟩ 363]⟩, ⟨[]⟩⟩
noncomputable def o105v1 (P : Params) : Obj := ⟨.type "function", none, .func ⟨⟨⟨[105, 110, 95, 116, 97, 98, 108, 101, 95, 98, 49]⟩⟩, ⟨⟨[105, 110, 95, 116, 97, 98, 108, 101, 95, 98, 49]⟩⟩, argsOf (topSt 5), .stmts (bodyOf (topSt 5)), scopeOf (topSt 5), 3, [], .none, .none, .none, .str ⟨⟨[99, 112, 121, 51, 49, 51, 46, 115, 116, 114, 105, 110, 103, 112, 114, 101, 112]⟩⟩ 296, none, .ref 104, .none, 0⟩, ⟨[]⟩⟩
noncomputable def o3v7 (P : Params) : Obj := ⟨.type "dict", none, .dict ⟨[⟨PyData.keyHash P ⟨⟨[95, 95, 110, 97, 109, 101, 95, 95]⟩⟩, .str ⟨⟨[95, 95, 110, 97, 109, 101, 95, 95]⟩⟩ 165, .str ⟨⟨[99, 112, 121, 51, 49, 51, 46, 115, 116, 114, 105, 110, 103, 112, 114, 101, 112]⟩⟩ 296⟩, ⟨PyData.keyHash P ⟨⟨[95, 95, 100, 111, 99, 95, 95]⟩⟩, .str ⟨⟨[95, 95, 100, 111, 99, 95, 95]⟩⟩ 166, .none⟩, ⟨PyData.keyHash P ⟨⟨[95, 95, 112, 97, 99, 107, 97, 103, 101, 95, 95]⟩⟩, .str ⟨⟨[95, 95, 112, 97, 99, 107, 97, 103, 101, 95, 95]⟩⟩ 167, .none⟩, ⟨PyData.keyHash P ⟨⟨[95, 95, 108, 111, 97, 100, 101, 114, 95, 95]⟩⟩, .str ⟨⟨[95, 95, 108, 111, 97, 100, 101, 114, 95, 95]⟩⟩ 168, .builtin "__main__.__loader__#op\x61que"⟩, ⟨PyData.keyHash P ⟨⟨[95, 95, 115, 112, 101, 99, 95, 95]⟩⟩, .str ⟨⟨[95, 95, 115, 112, 101, 99, 95, 95]⟩⟩ 169, .none⟩, ⟨PyData.keyHash P ⟨⟨[95, 95, 97, 110, 110, 111, 116, 97, 116, 105, 111, 110, 115, 95, 95]⟩⟩, .str ⟨⟨[95, 95, 97, 110, 110, 111, 116, 97, 116, 105, 111, 110, 115, 95, 95]⟩⟩ 170, .ref 6⟩, ⟨PyData.keyHash P ⟨⟨[95, 95, 98, 117, 105, 108, 116, 105, 110, 115, 95, 95]⟩⟩, .str ⟨⟨[95, 95, 98, 117, 105, 108, 116, 105, 110, 115, 95, 95]⟩⟩ 171, .ref 4⟩, ⟨PyData.keyHash P ⟨⟨[95, 95, 102, 105, 108, 101, 95, 95]⟩⟩, .str ⟨⟨[95, 95, 102, 105, 108, 101, 95, 95]⟩⟩ 173, .str ⟨⟨[47, 99, 108, 97, 105, 109, 47, 99, 117, 116, 46, 112, 121]⟩⟩ 172⟩, ⟨PyData.keyHash P ⟨⟨[95, 95, 99, 97, 99, 104, 101, 100, 95, 95]⟩⟩, .str ⟨⟨[95, 95, 99, 97, 99, 104, 101, 100, 95, 95]⟩⟩ 174, .none⟩, ⟨PyData.keyHash P ⟨⟨[95, 119, 97, 108, 108]⟩⟩, .str ⟨⟨[95, 119, 97, 108, 108]⟩⟩ 193, .ref 21⟩, ⟨PyData.keyHash P ⟨⟨[87, 104, 105, 116, 101, 115, 112, 97, 99, 101]⟩⟩, .str ⟨⟨[87, 104, 105, 116, 101, 115, 112, 97, 99, 101]⟩⟩ 295, .ref 83⟩, ⟨PyData.keyHash P ⟨⟨[98, 49, 95, 115, 101, 116]⟩⟩, .str ⟨⟨[98, 49, 95, 115, 101, 116]⟩⟩ 357, .ref 95⟩, ⟨PyData.keyHash P ⟨⟨[105, 110, 95, 116, 97, 98, 108, 101, 95, 98, 49]⟩⟩, .str ⟨⟨[105, 110, 95, 116, 97, 98, 108, 101, 95, 98, 49]⟩⟩ 364, .ref 105⟩, ⟨PyData.keyHash P ⟨⟨[98, 51, 95, 101, 120, 99, 101, 112, 116, 105, 111, 110, 115]⟩⟩, .str ⟨⟨[98, 51, 95, 101, 120, 99, 101, 112, 116, 105, 111, 110, 115]⟩⟩ 2315, .ref 106⟩]⟩ 14, ⟨[]⟩⟩
noncomputable def o3v8 (P : Params) : Obj := ⟨.type "dict", none, .dict ⟨[⟨PyData.keyHash P ⟨⟨[95, 95, 110, 97, 109, 101, 95, 95]⟩⟩, .str ⟨⟨[95, 95, 110, 97, 109, 101, 95, 95]⟩⟩ 165, .str ⟨⟨[99, 112, 121, 51, 49, 51, 46, 115, 116, 114, 105, 110, 103, 112, 114, 101, 112]⟩⟩ 296⟩, ⟨PyData.keyHash P ⟨⟨[95, 95, 100, 111, 99, 95, 95]⟩⟩, .str ⟨⟨[95, 95, 100, 111, 99, 95, 95]⟩⟩ 166, .none⟩, ⟨PyData.keyHash P ⟨⟨[95, 95, 112, 97, 99, 107, 97, 103, 101, 95, 95]⟩⟩, .str ⟨⟨[95, 95, 112, 97, 99, 107, 97, 103, 101, 95, 95]⟩⟩ 167, .none⟩, ⟨PyData.keyHash P ⟨⟨[95, 95, 108, 111, 97, 100, 101, 114, 95, 95]⟩⟩, .str ⟨⟨[95, 95, 108, 111, 97, 100, 101, 114, 95, 95]⟩⟩ 168, .builtin "__main__.__loader__#op\x61que"⟩, ⟨PyData.keyHash P ⟨⟨[95, 95, 115, 112, 101, 99, 95, 95]⟩⟩, .str ⟨⟨[95, 95, 115, 112, 101, 99, 95, 95]⟩⟩ 169, .none⟩, ⟨PyData.keyHash P ⟨⟨[95, 95, 97, 110, 110, 111, 116, 97, 116, 105, 111, 110, 115, 95, 95]⟩⟩, .str ⟨⟨[95, 95, 97, 110, 110, 111, 116, 97, 116, 105, 111, 110, 115, 95, 95]⟩⟩ 170, .ref 6⟩, ⟨PyData.keyHash P ⟨⟨[95, 95, 98, 117, 105, 108, 116, 105, 110, 115, 95, 95]⟩⟩, .str ⟨⟨[95, 95, 98, 117, 105, 108, 116, 105, 110, 115, 95, 95]⟩⟩ 171, .ref 4⟩, ⟨PyData.keyHash P ⟨⟨[95, 95, 102, 105, 108, 101, 95, 95]⟩⟩, .str ⟨⟨[95, 95, 102, 105, 108, 101, 95, 95]⟩⟩ 173, .str ⟨⟨[47, 99, 108, 97, 105, 109, 47, 99, 117, 116, 46, 112, 121]⟩⟩ 172⟩, ⟨PyData.keyHash P ⟨⟨[95, 95, 99, 97, 99, 104, 101, 100, 95, 95]⟩⟩, .str ⟨⟨[95, 95, 99, 97, 99, 104, 101, 100, 95, 95]⟩⟩ 174, .none⟩, ⟨PyData.keyHash P ⟨⟨[95, 119, 97, 108, 108]⟩⟩, .str ⟨⟨[95, 119, 97, 108, 108]⟩⟩ 193, .ref 21⟩, ⟨PyData.keyHash P ⟨⟨[87, 104, 105, 116, 101, 115, 112, 97, 99, 101]⟩⟩, .str ⟨⟨[87, 104, 105, 116, 101, 115, 112, 97, 99, 101]⟩⟩ 295, .ref 83⟩, ⟨PyData.keyHash P ⟨⟨[98, 49, 95, 115, 101, 116]⟩⟩, .str ⟨⟨[98, 49, 95, 115, 101, 116]⟩⟩ 357, .ref 95⟩, ⟨PyData.keyHash P ⟨⟨[105, 110, 95, 116, 97, 98, 108, 101, 95, 98, 49]⟩⟩, .str ⟨⟨[105, 110, 95, 116, 97, 98, 108, 101, 95, 98, 49]⟩⟩ 364, .ref 105⟩, ⟨PyData.keyHash P ⟨⟨[98, 51, 95, 101, 120, 99, 101, 112, 116, 105, 111, 110, 115]⟩⟩, .str ⟨⟨[98, 51, 95, 101, 120, 99, 101, 112, 116, 105, 111, 110, 115]⟩⟩ 2315, .ref 106⟩, ⟨PyData.keyHash P ⟨⟨[109, 97, 112, 95, 116, 97, 98, 108, 101, 95, 98, 51]⟩⟩, .str ⟨⟨[109, 97, 112, 95, 116, 97, 98, 108, 101, 95, 98, 51]⟩⟩ 2323, .ref 151⟩]⟩ 15, ⟨[]⟩⟩
noncomputable def o12v5 (P : Params) : Obj := ⟨.none, none, .fields ⟨[.int (1) 0, .int (0) 0, .ref 20, .int (5) 0, .int (0) 0, .ref 27, .int (63) 0, .int (0) 0, .ref 104, .int (66) 0, .int (0) 0, .ref 150]⟩, ⟨[]⟩⟩
noncomputable def o145v1 (P : Params) : Obj := ⟨.type "tuple", none, .seq ⟨[]⟩ 0, ⟨[]⟩⟩
noncomputable def o146v1 (P : Params) : Obj := ⟨.none, none, .fields ⟨[]⟩, ⟨[]⟩⟩
noncomputable def o147v1 (P : Params) : Obj := ⟨.type "tuple", none, .seq ⟨[.str ⟨⟨[99, 111, 100, 101]⟩⟩ 2319, .str ⟨⟨[114]⟩⟩ 2320]⟩ 0, ⟨[]⟩⟩
noncomputable def o148v1 (P : Params) : Obj := ⟨.type "tuple", none, .seq ⟨[]⟩ 0, ⟨[]⟩⟩
noncomputable def o149v1 (P : Params) : Obj := ⟨.none, none, .func ⟨⟨⟨[109, 97, 112, 95, 116, 97, 98, 108, 101, 95, 98, 51]⟩⟩, ⟨⟨[109, 97, 112, 95, 116, 97, 98, 108, 101, 95, 98, 51]⟩⟩, argsOf (topSt 7), .stmts (bodyOf (topSt 7)), scopeOf (topSt 7), 0, [], .none, .none, .none, .none, none, .none, .none, 0⟩, ⟨[]⟩⟩
noncomputable def o150v1 (P : Params) : Obj := ⟨.type "code", none, .fields ⟨[.str ⟨⟨[109, 97, 112, 95, 116, 97, 98, 108, 101, 95, 98, 51]⟩⟩ 2316, .str ⟨⟨[109, 97, 112, 95, 116, 97, 98, 108, 101, 95, 98, 51]⟩⟩ 2317, .str ⟨⟨[47, 99, 108, 97, 105, 109, 47, 99, 117, 116, 46, 112, 121]⟩⟩ 2318, .int (66) 0, .int (1) 0, .int (0) 0, .int (0) 0, .int (3) 0, .ref 145, .bool true, .int (181) 0, .ref 146, .none, .ref 147, .ref 148, .ref 149, .int (2321) 0, .int (66) 0, .str ⟨⟨[47, 99, 108, 97, 105, 109, 47, 99, 117, 116, 46, 112, 121]⟩⟩ 2322]⟩, ⟨[]⟩⟩
noncomputable def o151v1 (P : Params) : Obj := ⟨.type "function", none, .func ⟨⟨⟨[109, 97, 112, 95, 116, 97, 98, 108, 101, 95, 98, 51]⟩⟩, ⟨⟨[109, 97, 112, 95, 116, 97, 98, 108, 101, 95, 98, 51]⟩⟩, argsOf (topSt 7), .stmts (bodyOf (topSt 7)), scopeOf (topSt 7), 3, [], .none, .none, .none, .str ⟨⟨[99, 112, 121, 51, 49, 51, 46, 115, 116, 114, 105, 110, 103, 112, 114, 101, 112]⟩⟩ 296, none, .ref 150, .none, 0⟩, ⟨[]⟩⟩
noncomputable def o3v9 (P : Params) : Obj := ⟨.type "dict", none, .dict ⟨[⟨PyData.keyHash P ⟨⟨[95, 95, 110, 97, 109, 101, 95, 95]⟩⟩, .str ⟨⟨[95, 95, 110, 97, 109, 101, 95, 95]⟩⟩ 165, .str ⟨⟨[99, 112, 121, 51, 49, 51, 46, 116, 114, 97, 99, 101, 98, 97, 99, 107]⟩⟩ 2324⟩, ⟨PyData.keyHash P ⟨⟨[95, 95, 100, 111, 99, 95, 95]⟩⟩, .str ⟨⟨[95, 95, 100, 111, 99, 95, 95]⟩⟩ 166, .none⟩, ⟨PyData.keyHash P ⟨⟨[95, 95, 112, 97, 99, 107, 97, 103, 101, 95, 95]⟩⟩, .str ⟨⟨[95, 95, 112, 97, 99, 107, 97, 103, 101, 95, 95]⟩⟩ 167, .none⟩, ⟨PyData.keyHash P ⟨⟨[95, 95, 108, 111, 97, 100, 101, 114, 95, 95]⟩⟩, .str ⟨⟨[95, 95, 108, 111, 97, 100, 101, 114, 95, 95]⟩⟩ 168, .builtin "__main__.__loader__#op\x61que"⟩, ⟨PyData.keyHash P ⟨⟨[95, 95, 115, 112, 101, 99, 95, 95]⟩⟩, .str ⟨⟨[95, 95, 115, 112, 101, 99, 95, 95]⟩⟩ 169, .none⟩, ⟨PyData.keyHash P ⟨⟨[95, 95, 97, 110, 110, 111, 116, 97, 116, 105, 111, 110, 115, 95, 95]⟩⟩, .str ⟨⟨[95, 95, 97, 110, 110, 111, 116, 97, 116, 105, 111, 110, 115, 95, 95]⟩⟩ 170, .ref 6⟩, ⟨PyData.keyHash P ⟨⟨[95, 95, 98, 117, 105, 108, 116, 105, 110, 115, 95, 95]⟩⟩, .str ⟨⟨[95, 95, 98, 117, 105, 108, 116, 105, 110, 115, 95, 95]⟩⟩ 171, .ref 4⟩, ⟨PyData.keyHash P ⟨⟨[95, 95, 102, 105, 108, 101, 95, 95]⟩⟩, .str ⟨⟨[95, 95, 102, 105, 108, 101, 95, 95]⟩⟩ 173, .str ⟨⟨[47, 99, 108, 97, 105, 109, 47, 99, 117, 116, 46, 112, 121]⟩⟩ 172⟩, ⟨PyData.keyHash P ⟨⟨[95, 95, 99, 97, 99, 104, 101, 100, 95, 95]⟩⟩, .str ⟨⟨[95, 95, 99, 97, 99, 104, 101, 100, 95, 95]⟩⟩ 174, .none⟩, ⟨PyData.keyHash P ⟨⟨[95, 119, 97, 108, 108]⟩⟩, .str ⟨⟨[95, 119, 97, 108, 108]⟩⟩ 193, .ref 21⟩, ⟨PyData.keyHash P ⟨⟨[87, 104, 105, 116, 101, 115, 112, 97, 99, 101]⟩⟩, .str ⟨⟨[87, 104, 105, 116, 101, 115, 112, 97, 99, 101]⟩⟩ 295, .ref 83⟩, ⟨PyData.keyHash P ⟨⟨[98, 49, 95, 115, 101, 116]⟩⟩, .str ⟨⟨[98, 49, 95, 115, 101, 116]⟩⟩ 357, .ref 95⟩, ⟨PyData.keyHash P ⟨⟨[105, 110, 95, 116, 97, 98, 108, 101, 95, 98, 49]⟩⟩, .str ⟨⟨[105, 110, 95, 116, 97, 98, 108, 101, 95, 98, 49]⟩⟩ 364, .ref 105⟩, ⟨PyData.keyHash P ⟨⟨[98, 51, 95, 101, 120, 99, 101, 112, 116, 105, 111, 110, 115]⟩⟩, .str ⟨⟨[98, 51, 95, 101, 120, 99, 101, 112, 116, 105, 111, 110, 115]⟩⟩ 2315, .ref 106⟩, ⟨PyData.keyHash P ⟨⟨[109, 97, 112, 95, 116, 97, 98, 108, 101, 95, 98, 51]⟩⟩, .str ⟨⟨[109, 97, 112, 95, 116, 97, 98, 108, 101, 95, 98, 51]⟩⟩ 2323, .ref 151⟩]⟩ 15, ⟨[]⟩⟩
noncomputable def o3v10 (P : Params) : Obj := ⟨.type "dict", none, .dict ⟨[⟨PyData.keyHash P ⟨⟨[95, 95, 110, 97, 109, 101, 95, 95]⟩⟩, .str ⟨⟨[95, 95, 110, 97, 109, 101, 95, 95]⟩⟩ 165, .str ⟨⟨[99, 112, 121, 51, 49, 51, 46, 116, 114, 97, 99, 101, 98, 97, 99, 107]⟩⟩ 2324⟩, ⟨PyData.keyHash P ⟨⟨[95, 95, 100, 111, 99, 95, 95]⟩⟩, .str ⟨⟨[95, 95, 100, 111, 99, 95, 95]⟩⟩ 166, .none⟩, ⟨PyData.keyHash P ⟨⟨[95, 95, 112, 97, 99, 107, 97, 103, 101, 95, 95]⟩⟩, .str ⟨⟨[95, 95, 112, 97, 99, 107, 97, 103, 101, 95, 95]⟩⟩ 167, .none⟩, ⟨PyData.keyHash P ⟨⟨[95, 95, 108, 111, 97, 100, 101, 114, 95, 95]⟩⟩, .str ⟨⟨[95, 95, 108, 111, 97, 100, 101, 114, 95, 95]⟩⟩ 168, .builtin "__main__.__loader__#op\x61que"⟩, ⟨PyData.keyHash P ⟨⟨[95, 95, 115, 112, 101, 99, 95, 95]⟩⟩, .str ⟨⟨[95, 95, 115, 112, 101, 99, 95, 95]⟩⟩ 169, .none⟩, ⟨PyData.keyHash P ⟨⟨[95, 95, 97, 110, 110, 111, 116, 97, 116, 105, 111, 110, 115, 95, 95]⟩⟩, .str ⟨⟨[95, 95, 97, 110, 110, 111, 116, 97, 116, 105, 111, 110, 115, 95, 95]⟩⟩ 170, .ref 6⟩, ⟨PyData.keyHash P ⟨⟨[95, 95, 98, 117, 105, 108, 116, 105, 110, 115, 95, 95]⟩⟩, .str ⟨⟨[95, 95, 98, 117, 105, 108, 116, 105, 110, 115, 95, 95]⟩⟩ 171, .ref 4⟩, ⟨PyData.keyHash P ⟨⟨[95, 95, 102, 105, 108, 101, 95, 95]⟩⟩, .str ⟨⟨[95, 95, 102, 105, 108, 101, 95, 95]⟩⟩ 173, .str ⟨⟨[47, 99, 108, 97, 105, 109, 47, 99, 117, 116, 46, 112, 121]⟩⟩ 172⟩, ⟨PyData.keyHash P ⟨⟨[95, 95, 99, 97, 99, 104, 101, 100, 95, 95]⟩⟩, .str ⟨⟨[95, 95, 99, 97, 99, 104, 101, 100, 95, 95]⟩⟩ 174, .none⟩, ⟨PyData.keyHash P ⟨⟨[95, 119, 97, 108, 108]⟩⟩, .str ⟨⟨[95, 119, 97, 108, 108]⟩⟩ 193, .ref 21⟩, ⟨PyData.keyHash P ⟨⟨[87, 104, 105, 116, 101, 115, 112, 97, 99, 101]⟩⟩, .str ⟨⟨[87, 104, 105, 116, 101, 115, 112, 97, 99, 101]⟩⟩ 295, .ref 83⟩, ⟨PyData.keyHash P ⟨⟨[98, 49, 95, 115, 101, 116]⟩⟩, .str ⟨⟨[98, 49, 95, 115, 101, 116]⟩⟩ 357, .ref 95⟩, ⟨PyData.keyHash P ⟨⟨[105, 110, 95, 116, 97, 98, 108, 101, 95, 98, 49]⟩⟩, .str ⟨⟨[105, 110, 95, 116, 97, 98, 108, 101, 95, 98, 49]⟩⟩ 364, .ref 105⟩, ⟨PyData.keyHash P ⟨⟨[98, 51, 95, 101, 120, 99, 101, 112, 116, 105, 111, 110, 115]⟩⟩, .str ⟨⟨[98, 51, 95, 101, 120, 99, 101, 112, 116, 105, 111, 110, 115]⟩⟩ 2315, .ref 106⟩, ⟨PyData.keyHash P ⟨⟨[109, 97, 112, 95, 116, 97, 98, 108, 101, 95, 98, 51]⟩⟩, .str ⟨⟨[109, 97, 112, 95, 116, 97, 98, 108, 101, 95, 98, 51]⟩⟩ 2323, .ref 151⟩, ⟨PyData.keyHash P ⟨⟨[95, 77, 65, 88, 95, 83, 84, 82, 73, 78, 71, 95, 83, 73, 90, 69]⟩⟩, .str ⟨⟨[95, 77, 65, 88, 95, 83, 84, 82, 73, 78, 71, 95, 83, 73, 90, 69]⟩⟩ 2327, .int (40) 2326⟩]⟩ 16, ⟨[]⟩⟩
noncomputable def o3v11 (P : Params) : Obj := ⟨.type "dict", none, .dict ⟨[⟨PyData.keyHash P ⟨⟨[95, 95, 110, 97, 109, 101, 95, 95]⟩⟩, .str ⟨⟨[95, 95, 110, 97, 109, 101, 95, 95]⟩⟩ 165, .str ⟨⟨[99, 112, 121, 51, 49, 51, 46, 116, 114, 97, 99, 101, 98, 97, 99, 107]⟩⟩ 2324⟩, ⟨PyData.keyHash P ⟨⟨[95, 95, 100, 111, 99, 95, 95]⟩⟩, .str ⟨⟨[95, 95, 100, 111, 99, 95, 95]⟩⟩ 166, .none⟩, ⟨PyData.keyHash P ⟨⟨[95, 95, 112, 97, 99, 107, 97, 103, 101, 95, 95]⟩⟩, .str ⟨⟨[95, 95, 112, 97, 99, 107, 97, 103, 101, 95, 95]⟩⟩ 167, .none⟩, ⟨PyData.keyHash P ⟨⟨[95, 95, 108, 111, 97, 100, 101, 114, 95, 95]⟩⟩, .str ⟨⟨[95, 95, 108, 111, 97, 100, 101, 114, 95, 95]⟩⟩ 168, .builtin "__main__.__loader__#op\x61que"⟩, ⟨PyData.keyHash P ⟨⟨[95, 95, 115, 112, 101, 99, 95, 95]⟩⟩, .str ⟨⟨[95, 95, 115, 112, 101, 99, 95, 95]⟩⟩ 169, .none⟩, ⟨PyData.keyHash P ⟨⟨[95, 95, 97, 110, 110, 111, 116, 97, 116, 105, 111, 110, 115, 95, 95]⟩⟩, .str ⟨⟨[95, 95, 97, 110, 110, 111, 116, 97, 116, 105, 111, 110, 115, 95, 95]⟩⟩ 170, .ref 6⟩, ⟨PyData.keyHash P ⟨⟨[95, 95, 98, 117, 105, 108, 116, 105, 110, 115, 95, 95]⟩⟩, .str ⟨⟨[95, 95, 98, 117, 105, 108, 116, 105, 110, 115, 95, 95]⟩⟩ 171, .ref 4⟩, ⟨PyData.keyHash P ⟨⟨[95, 95, 102, 105, 108, 101, 95, 95]⟩⟩, .str ⟨⟨[95, 95, 102, 105, 108, 101, 95, 95]⟩⟩ 173, .str ⟨⟨[47, 99, 108, 97, 105, 109, 47, 99, 117, 116, 46, 112, 121]⟩⟩ 172⟩, ⟨PyData.keyHash P ⟨⟨[95, 95, 99, 97, 99, 104, 101, 100, 95, 95]⟩⟩, .str ⟨⟨[95, 95, 99, 97, 99, 104, 101, 100, 95, 95]⟩⟩ 174, .none⟩, ⟨PyData.keyHash P ⟨⟨[95, 119, 97, 108, 108]⟩⟩, .str ⟨⟨[95, 119, 97, 108, 108]⟩⟩ 193, .ref 21⟩, ⟨PyData.keyHash P ⟨⟨[87, 104, 105, 116, 101, 115, 112, 97, 99, 101]⟩⟩, .str ⟨⟨[87, 104, 105, 116, 101, 115, 112, 97, 99, 101]⟩⟩ 295, .ref 83⟩, ⟨PyData.keyHash P ⟨⟨[98, 49, 95, 115, 101, 116]⟩⟩, .str ⟨⟨[98, 49, 95, 115, 101, 116]⟩⟩ 357, .ref 95⟩, ⟨PyData.keyHash P ⟨⟨[105, 110, 95, 116, 97, 98, 108, 101, 95, 98, 49]⟩⟩, .str ⟨⟨[105, 110, 95, 116, 97, 98, 108, 101, 95, 98, 49]⟩⟩ 364, .ref 105⟩, ⟨PyData.keyHash P ⟨⟨[98, 51, 95, 101, 120, 99, 101, 112, 116, 105, 111, 110, 115]⟩⟩, .str ⟨⟨[98, 51, 95, 101, 120, 99, 101, 112, 116, 105, 111, 110, 115]⟩⟩ 2315, .ref 106⟩, ⟨PyData.keyHash P ⟨⟨[109, 97, 112, 95, 116, 97, 98, 108, 101, 95, 98, 51]⟩⟩, .str ⟨⟨[109, 97, 112, 95, 116, 97, 98, 108, 101, 95, 98, 51]⟩⟩ 2323, .ref 151⟩, ⟨PyData.keyHash P ⟨⟨[95, 77, 65, 88, 95, 83, 84, 82, 73, 78, 71, 95, 83, 73, 90, 69]⟩⟩, .str ⟨⟨[95, 77, 65, 88, 95, 83, 84, 82, 73, 78, 71, 95, 83, 73, 90, 69]⟩⟩ 2327, .int (40) 2326⟩, ⟨PyData.keyHash P ⟨⟨[95, 77, 79, 86, 69, 95, 67, 79, 83, 84]⟩⟩, .str ⟨⟨[95, 77, 79, 86, 69, 95, 67, 79, 83, 84]⟩⟩ 2329, .int (2) 2328⟩]⟩ 17, ⟨[]⟩⟩
noncomputable def o3v12 (P : Params) : Obj := ⟨.type "dict", none, .dict ⟨[⟨PyData.keyHash P ⟨⟨[95, 95, 110, 97, 109, 101, 95, 95]⟩⟩, .str ⟨⟨[95, 95, 110, 97, 109, 101, 95, 95]⟩⟩ 165, .str ⟨⟨[99, 112, 121, 51, 49, 51, 46, 116, 114, 97, 99, 101, 98, 97, 99, 107]⟩⟩ 2324⟩, ⟨PyData.keyHash P ⟨⟨[95, 95, 100, 111, 99, 95, 95]⟩⟩, .str ⟨⟨[95, 95, 100, 111, 99, 95, 95]⟩⟩ 166, .none⟩, ⟨PyData.keyHash P ⟨⟨[95, 95, 112, 97, 99, 107, 97, 103, 101, 95, 95]⟩⟩, .str ⟨⟨[95, 95, 112, 97, 99, 107, 97, 103, 101, 95, 95]⟩⟩ 167, .none⟩, ⟨PyData.keyHash P ⟨⟨[95, 95, 108, 111, 97, 100, 101, 114, 95, 95]⟩⟩, .str ⟨⟨[95, 95, 108, 111, 97, 100, 101, 114, 95, 95]⟩⟩ 168, .builtin "__main__.__loader__#op\x61que"⟩, ⟨PyData.keyHash P ⟨⟨[95, 95, 115, 112, 101, 99, 95, 95]⟩⟩, .str ⟨⟨[95, 95, 115, 112, 101, 99, 95, 95]⟩⟩ 169, .none⟩, ⟨PyData.keyHash P ⟨⟨[95, 95, 97, 110, 110, 111, 116, 97, 116, 105, 111, 110, 115, 95, 95]⟩⟩, .str ⟨⟨[95, 95, 97, 110, 110, 111, 116, 97, 116, 105, 111, 110, 115, 95, 95]⟩⟩ 170, .ref 6⟩, ⟨PyData.keyHash P ⟨⟨[95, 95, 98, 117, 105, 108, 116, 105, 110, 115, 95, 95]⟩⟩, .str ⟨⟨[95, 95, 98, 117, 105, 108, 116, 105, 110, 115, 95, 95]⟩⟩ 171, .ref 4⟩, ⟨PyData.keyHash P ⟨⟨[95, 95, 102, 105, 108, 101, 95, 95]⟩⟩, .str ⟨⟨[95, 95, 102, 105, 108, 101, 95, 95]⟩⟩ 173, .str ⟨⟨[47, 99, 108, 97, 105, 109, 47, 99, 117, 116, 46, 112, 121]⟩⟩ 172⟩, ⟨PyData.keyHash P ⟨⟨[95, 95, 99, 97, 99, 104, 101, 100, 95, 95]⟩⟩, .str ⟨⟨[95, 95, 99, 97, 99, 104, 101, 100, 95, 95]⟩⟩ 174, .none⟩, ⟨PyData.keyHash P ⟨⟨[95, 119, 97, 108, 108]⟩⟩, .str ⟨⟨[95, 119, 97, 108, 108]⟩⟩ 193, .ref 21⟩, ⟨PyData.keyHash P ⟨⟨[87, 104, 105, 116, 101, 115, 112, 97, 99, 101]⟩⟩, .str ⟨⟨[87, 104, 105, 116, 101, 115, 112, 97, 99, 101]⟩⟩ 295, .ref 83⟩, ⟨PyData.keyHash P ⟨⟨[98, 49, 95, 115, 101, 116]⟩⟩, .str ⟨⟨[98, 49, 95, 115, 101, 116]⟩⟩ 357, .ref 95⟩, ⟨PyData.keyHash P ⟨⟨[105, 110, 95, 116, 97, 98, 108, 101, 95, 98, 49]⟩⟩, .str ⟨⟨[105, 110, 95, 116, 97, 98, 108, 101, 95, 98, 49]⟩⟩ 364, .ref 105⟩, ⟨PyData.keyHash P ⟨⟨[98, 51, 95, 101, 120, 99, 101, 112, 116, 105, 111, 110, 115]⟩⟩, .str ⟨⟨[98, 51, 95, 101, 120, 99, 101, 112, 116, 105, 111, 110, 115]⟩⟩ 2315, .ref 106⟩, ⟨PyData.keyHash P ⟨⟨[109, 97, 112, 95, 116, 97, 98, 108, 101, 95, 98, 51]⟩⟩, .str ⟨⟨[109, 97, 112, 95, 116, 97, 98, 108, 101, 95, 98, 51]⟩⟩ 2323, .ref 151⟩, ⟨PyData.keyHash P ⟨⟨[95, 77, 65, 88, 95, 83, 84, 82, 73, 78, 71, 95, 83, 73, 90, 69]⟩⟩, .str ⟨⟨[95, 77, 65, 88, 95, 83, 84, 82, 73, 78, 71, 95, 83, 73, 90, 69]⟩⟩ 2327, .int (40) 2326⟩, ⟨PyData.keyHash P ⟨⟨[95, 77, 79, 86, 69, 95, 67, 79, 83, 84]⟩⟩, .str ⟨⟨[95, 77, 79, 86, 69, 95, 67, 79, 83, 84]⟩⟩ 2329, .int (2) 2328⟩, ⟨PyData.keyHash P ⟨⟨[95, 67, 65, 83, 69, 95, 67, 79, 83, 84]⟩⟩, .str ⟨⟨[95, 67, 65, 83, 69, 95, 67, 79, 83, 84]⟩⟩ 2331, .int (1) 2330⟩]⟩ 18, ⟨[]⟩⟩
noncomputable def o3v13 (P : Params) : Obj := ⟨.type "dict", none, .dict ⟨[⟨PyData.keyHash P ⟨⟨[95, 95, 110, 97, 109, 101, 95, 95]⟩⟩, .str ⟨⟨[95, 95, 110, 97, 109, 101, 95, 95]⟩⟩ 165, .str ⟨⟨[99, 112, 121, 51, 49, 51, 46, 116, 114, 97, 99, 101, 98, 97, 99, 107]⟩⟩ 2324⟩, ⟨PyData.keyHash P ⟨⟨[95, 95, 100, 111, 99, 95, 95]⟩⟩, .str ⟨⟨[95, 95, 100, 111, 99, 95, 95]⟩⟩ 166, .none⟩, ⟨PyData.keyHash P ⟨⟨[95, 95, 112, 97, 99, 107, 97, 103, 101, 95, 95]⟩⟩, .str ⟨⟨[95, 95, 112, 97, 99, 107, 97, 103, 101, 95, 95]⟩⟩ 167, .none⟩, ⟨PyData.keyHash P ⟨⟨[95, 95, 108, 111, 97, 100, 101, 114, 95, 95]⟩⟩, .str ⟨⟨[95, 95, 108, 111, 97, 100, 101, 114, 95, 95]⟩⟩ 168, .builtin "__main__.__loader__#op\x61que"⟩, ⟨PyData.keyHash P ⟨⟨[95, 95, 115, 112, 101, 99, 95, 95]⟩⟩, .str ⟨⟨[95, 95, 115, 112, 101, 99, 95, 95]⟩⟩ 169, .none⟩, ⟨PyData.keyHash P ⟨⟨[95, 95, 97, 110, 110, 111, 116, 97, 116, 105, 111, 110, 115, 95, 95]⟩⟩, .str ⟨⟨[95, 95, 97, 110, 110, 111, 116, 97, 116, 105, 111, 110, 115, 95, 95]⟩⟩ 170, .ref 6⟩, ⟨PyData.keyHash P ⟨⟨[95, 95, 98, 117, 105, 108, 116, 105, 110, 115, 95, 95]⟩⟩, .str ⟨⟨[95, 95, 98, 117, 105, 108, 116, 105, 110, 115, 95, 95]⟩⟩ 171, .ref 4⟩, ⟨PyData.keyHash P ⟨⟨[95, 95, 102, 105, 108, 101, 95, 95]⟩⟩, .str ⟨⟨[95, 95, 102, 105, 108, 101, 95, 95]⟩⟩ 173, .str ⟨⟨[47, 99, 108, 97, 105, 109, 47, 99, 117, 116, 46, 112, 121]⟩⟩ 172⟩, ⟨PyData.keyHash P ⟨⟨[95, 95, 99, 97, 99, 104, 101, 100, 95, 95]⟩⟩, .str ⟨⟨[95, 95, 99, 97, 99, 104, 101, 100, 95, 95]⟩⟩ 174, .none⟩, ⟨PyData.keyHash P ⟨⟨[95, 119, 97, 108, 108]⟩⟩, .str ⟨⟨[95, 119, 97, 108, 108]⟩⟩ 193, .ref 21⟩, ⟨PyData.keyHash P ⟨⟨[87, 104, 105, 116, 101, 115, 112, 97, 99, 101]⟩⟩, .str ⟨⟨[87, 104, 105, 116, 101, 115, 112, 97, 99, 101]⟩⟩ 295, .ref 83⟩, ⟨PyData.keyHash P ⟨⟨[98, 49, 95, 115, 101, 116]⟩⟩, .str ⟨⟨[98, 49, 95, 115, 101, 116]⟩⟩ 357, .ref 95⟩, ⟨PyData.keyHash P ⟨⟨[105, 110, 95, 116, 97, 98, 108, 101, 95, 98, 49]⟩⟩, .str ⟨⟨[105, 110, 95, 116, 97, 98, 108, 101, 95, 98, 49]⟩⟩ 364, .ref 105⟩, ⟨PyData.keyHash P ⟨⟨[98, 51, 95, 101, 120, 99, 101, 112, 116, 105, 111, 110, 115]⟩⟩, .str ⟨⟨[98, 51, 95, 101, 120, 99, 101, 112, 116, 105, 111, 110, 115]⟩⟩ 2315, .ref 106⟩, ⟨PyData.keyHash P ⟨⟨[109, 97, 112, 95, 116, 97, 98, 108, 101, 95, 98, 51]⟩⟩, .str ⟨⟨[109, 97, 112, 95, 116, 97, 98, 108, 101, 95, 98, 51]⟩⟩ 2323, .ref 151⟩, ⟨PyData.keyHash P ⟨⟨[95, 77, 65, 88, 95, 83, 84, 82, 73, 78, 71, 95, 83, 73, 90, 69]⟩⟩, .str ⟨⟨[95, 77, 65, 88, 95, 83, 84, 82, 73, 78, 71, 95, 83, 73, 90, 69]⟩⟩ 2327, .int (40) 2326⟩, ⟨PyData.keyHash P ⟨⟨[95, 77, 79, 86, 69, 95, 67, 79, 83, 84]⟩⟩, .str ⟨⟨[95, 77, 79, 86, 69, 95, 67, 79, 83, 84]⟩⟩ 2329, .int (2) 2328⟩, ⟨PyData.keyHash P ⟨⟨[95, 67, 65, 83, 69, 95, 67, 79, 83, 84]⟩⟩, .str ⟨⟨[95, 67, 65, 83, 69, 95, 67, 79, 83, 84]⟩⟩ 2331, .int (1) 2330⟩, ⟨PyData.keyHash P ⟨⟨[95, 115, 117, 98, 115, 116, 105, 116, 117, 116, 105, 111, 110, 95, 99, 111, 115, 116]⟩⟩, .str ⟨⟨[95, 115, 117, 98, 115, 116, 105, 116, 117, 116, 105, 111, 110, 95, 99, 111, 115, 116]⟩⟩ 2339, .ref 158⟩]⟩ 19, ⟨[]⟩⟩
noncomputable def o12v6 (P : Params) : Obj := ⟨.none, none, .fields ⟨[.int (1) 0, .int (0) 0, .ref 20, .int (5) 0, .int (0) 0, .ref 27, .int (63) 0, .int (0) 0, .ref 104, .int (66) 0, .int (0) 0, .ref 150, .int (75) 0, .int (0) 0, .ref 157]⟩, ⟨[]⟩⟩
noncomputable def o152v1 (P : Params) : Obj := ⟨.type "tuple", none, .seq ⟨[]⟩ 0, ⟨[]⟩⟩
noncomputable def o153v1 (P : Params) : Obj := ⟨.none, none, .fields ⟨[]⟩, ⟨[]⟩⟩
noncomputable def o154v1 (P : Params) : Obj := ⟨.type "tuple", none, .seq ⟨[.str ⟨⟨[99, 104, 95, 97]⟩⟩ 2335, .str ⟨⟨[99, 104, 95, 98]⟩⟩ 2336]⟩ 0, ⟨[]⟩⟩
noncomputable def o155v1 (P : Params) : Obj := ⟨.type "tuple", none, .seq ⟨[]⟩ 0, ⟨[]⟩⟩
noncomputable def o156v1 (P : Params) : Obj := ⟨.none, none, .func ⟨⟨⟨[95, 115, 117, 98, 115, 116, 105, 116, 117, 116, 105, 111, 110, 95, 99, 111, 115, 116]⟩⟩, ⟨⟨[95, 115, 117, 98, 115, 116, 105, 116, 117, 116, 105, 111, 110, 95, 99, 111, 115, 116]⟩⟩, argsOf (topSt 12), .stmts (bodyOf (topSt 12)), scopeOf (topSt 12), 0, [], .none, .none, .none, .none, none, .none, .none, 0⟩, ⟨[]⟩⟩
noncomputable def o157v1 (P : Params) : Obj := ⟨.type "code", none, .fields ⟨[.str ⟨⟨[95, 115, 117, 98, 115, 116, 105, 116, 117, 116, 105, 111, 110, 95, 99, 111, 115, 116]⟩⟩ 2332, .str ⟨⟨[95, 115, 117, 98, 115, 116, 105, 116, 117, 116, 105, 111, 110, 95, 99, 111, 115, 116]⟩⟩ 2333, .str ⟨⟨[47, 99, 108, 97, 105, 109, 47, 99, 117, 116, 46, 112, 121]⟩⟩ 2334, .int (75) 0, .int (2) 0, .int (0) 0, .int (0) 0, .int (3) 0, .ref 152, .bool true, .int (181) 0, .ref 153, .none, .ref 154, .ref 155, .ref 156, .int (2337) 0, .int (75) 0, .str ⟨⟨[47, 99, 108, 97, 105, 109, 47, 99, 117, 116, 46, 112, 121]⟩⟩ 2338]⟩, ⟨[]⟩⟩
noncomputable def o158v1 (P : Params) : Obj := ⟨.type "function", none, .func ⟨⟨⟨[95, 115, 117, 98, 115, 116, 105, 116, 117, 116, 105, 111, 110, 95, 99, 111, 115, 116]⟩⟩, ⟨⟨[95, 115, 117, 98, 115, 116, 105, 116, 117, 116, 105, 111, 110, 95, 99, 111, 115, 116]⟩⟩, argsOf (topSt 12), .stmts (bodyOf (topSt 12)), scopeOf (topSt 12), 3, [], .none, .none, .none, .str ⟨⟨[99, 112, 121, 51, 49, 51, 46, 116, 114, 97, 99, 101, 98, 97, 99, 107]⟩⟩ 2324, none, .ref 157, .none, 0⟩, ⟨[]⟩⟩
noncomputable def o3v14 (P : Params) : Obj := ⟨.type "dict", none, .dict ⟨[⟨PyData.keyHash P ⟨⟨[95, 95, 110, 97, 109, 101, 95, 95]⟩⟩, .str ⟨⟨[95, 95, 110, 97, 109, 101, 95, 95]⟩⟩ 165, .str ⟨⟨[99, 112, 121, 51, 49, 51, 46, 116, 114, 97, 99, 101, 98, 97, 99, 107]⟩⟩ 2324⟩, ⟨PyData.keyHash P ⟨⟨[95, 95, 100, 111, 99, 95, 95]⟩⟩, .str ⟨⟨[95, 95, 100, 111, 99, 95, 95]⟩⟩ 166, .none⟩, ⟨PyData.keyHash P ⟨⟨[95, 95, 112, 97, 99, 107, 97, 103, 101, 95, 95]⟩⟩, .str ⟨⟨[95, 95, 112, 97, 99, 107, 97, 103, 101, 95, 95]⟩⟩ 167, .none⟩, ⟨PyData.keyHash P ⟨⟨[95, 95, 108, 111, 97, 100, 101, 114, 95, 95]⟩⟩, .str ⟨⟨[95, 95, 108, 111, 97, 100, 101, 114, 95, 95]⟩⟩ 168, .builtin "__main__.__loader__#op\x61que"⟩, ⟨PyData.keyHash P ⟨⟨[95, 95, 115, 112, 101, 99, 95, 95]⟩⟩, .str ⟨⟨[95, 95, 115, 112, 101, 99, 95, 95]⟩⟩ 169, .none⟩, ⟨PyData.keyHash P ⟨⟨[95, 95, 97, 110, 110, 111, 116, 97, 116, 105, 111, 110, 115, 95, 95]⟩⟩, .str ⟨⟨[95, 95, 97, 110, 110, 111, 116, 97, 116, 105, 111, 110, 115, 95, 95]⟩⟩ 170, .ref 6⟩, ⟨PyData.keyHash P ⟨⟨[95, 95, 98, 117, 105, 108, 116, 105, 110, 115, 95, 95]⟩⟩, .str ⟨⟨[95, 95, 98, 117, 105, 108, 116, 105, 110, 115, 95, 95]⟩⟩ 171, .ref 4⟩, ⟨PyData.keyHash P ⟨⟨[95, 95, 102, 105, 108, 101, 95, 95]⟩⟩, .str ⟨⟨[95, 95, 102, 105, 108, 101, 95, 95]⟩⟩ 173, .str ⟨⟨[47, 99, 108, 97, 105, 109, 47, 99, 117, 116, 46, 112, 121]⟩⟩ 172⟩, ⟨PyData.keyHash P ⟨⟨[95, 95, 99, 97, 99, 104, 101, 100, 95, 95]⟩⟩, .str ⟨⟨[95, 95, 99, 97, 99, 104, 101, 100, 95, 95]⟩⟩ 174, .none⟩, ⟨PyData.keyHash P ⟨⟨[95, 119, 97, 108, 108]⟩⟩, .str ⟨⟨[95, 119, 97, 108, 108]⟩⟩ 193, .ref 21⟩, ⟨PyData.keyHash P ⟨⟨[87, 104, 105, 116, 101, 115, 112, 97, 99, 101]⟩⟩, .str ⟨⟨[87, 104, 105, 116, 101, 115, 112, 97, 99, 101]⟩⟩ 295, .ref 83⟩, ⟨PyData.keyHash P ⟨⟨[98, 49, 95, 115, 101, 116]⟩⟩, .str ⟨⟨[98, 49, 95, 115, 101, 116]⟩⟩ 357, .ref 95⟩, ⟨PyData.keyHash P ⟨⟨[105, 110, 95, 116, 97, 98, 108, 101, 95, 98, 49]⟩⟩, .str ⟨⟨[105, 110, 95, 116, 97, 98, 108, 101, 95, 98, 49]⟩⟩ 364, .ref 105⟩, ⟨PyData.keyHash P ⟨⟨[98, 51, 95, 101, 120, 99, 101, 112, 116, 105, 111, 110, 115]⟩⟩, .str ⟨⟨[98, 51, 95, 101, 120, 99, 101, 112, 116, 105, 111, 110, 115]⟩⟩ 2315, .ref 106⟩, ⟨PyData.keyHash P ⟨⟨[109, 97, 112, 95, 116, 97, 98, 108, 101, 95, 98, 51]⟩⟩, .str ⟨⟨[109, 97, 112, 95, 116, 97, 98, 108, 101, 95, 98, 51]⟩⟩ 2323, .ref 151⟩, ⟨PyData.keyHash P ⟨⟨[95, 77, 65, 88, 95, 83, 84, 82, 73, 78, 71, 95, 83, 73, 90, 69]⟩⟩, .str ⟨⟨[95, 77, 65, 88, 95, 83, 84, 82, 73, 78, 71, 95, 83, 73, 90, 69]⟩⟩ 2327, .int (40) 2326⟩, ⟨PyData.keyHash P ⟨⟨[95, 77, 79, 86, 69, 95, 67, 79, 83, 84]⟩⟩, .str ⟨⟨[95, 77, 79, 86, 69, 95, 67, 79, 83, 84]⟩⟩ 2329, .int (2) 2328⟩, ⟨PyData.keyHash P ⟨⟨[95, 67, 65, 83, 69, 95, 67, 79, 83, 84]⟩⟩, .str ⟨⟨[95, 67, 65, 83, 69, 95, 67, 79, 83, 84]⟩⟩ 2331, .int (1) 2330⟩, ⟨PyData.keyHash P ⟨⟨[95, 115, 117, 98, 115, 116, 105, 116, 117, 116, 105, 111, 110, 95, 99, 111, 115, 116]⟩⟩, .str ⟨⟨[95, 115, 117, 98, 115, 116, 105, 116, 117, 116, 105, 111, 110, 95, 99, 111, 115, 116]⟩⟩ 2339, .ref 158⟩, ⟨PyData.keyHash P ⟨⟨[95, 108, 101, 118, 101, 110, 115, 104, 116, 101, 105, 110, 95, 100, 105, 115, 116, 97, 110, 99, 101]⟩⟩, .str ⟨⟨[95, 108, 101, 118, 101, 110, 115, 104, 116, 101, 105, 110, 95, 100, 105, 115, 116, 97, 110, 99, 101]⟩⟩ 2359, .ref 165⟩]⟩ 20, ⟨[]⟩⟩
noncomputable def o12v7 (P : Params) : Obj := ⟨.none, none, .fields ⟨[.int (1) 0, .int (0) 0, .ref 20, .int (5) 0, .int (0) 0, .ref 27, .int (63) 0, .int (0) 0, .ref 104, .int (66) 0, .int (0) 0, .ref 150, .int (75) 0, .int (0) 0, .ref 157, .int (81) 0, .int (0) 0, .ref 164]⟩, ⟨[]⟩⟩
noncomputable def o159v1 (P : Params) : Obj := ⟨.type "tuple", none, .seq ⟨[]⟩ 0, ⟨[]⟩⟩
noncomputable def o160v1 (P : Params) : Obj := ⟨.none, none, .fields ⟨[]⟩, ⟨[]⟩⟩
noncomputable def o161v1 (P : Params) : Obj := ⟨.type "tuple", none, .seq ⟨[.str ⟨⟨[97]⟩⟩ 2343, .str ⟨⟨[98]⟩⟩ 2344, .str ⟨⟨[109, 97, 120, 95, 99, 111, 115, 116]⟩⟩ 2345, .str ⟨⟨[112, 114, 101]⟩⟩ 2346, .str ⟨⟨[112, 111, 115, 116]⟩⟩ 2347, .str ⟨⟨[114, 111, 119]⟩⟩ 2348, .str ⟨⟨[114, 101, 115, 117, 108, 116]⟩⟩ 2349, .str ⟨⟨[98, 105, 110, 100, 101, 120]⟩⟩ 2350, .str ⟨⟨[98, 99, 104, 97, 114]⟩⟩ 2351, .str ⟨⟨[100, 105, 115, 116, 97, 110, 99, 101]⟩⟩ 2352, .str ⟨⟨[109, 105, 110, 105, 109, 117, 109]⟩⟩ 2353, .str ⟨⟨[105, 110, 100, 101, 120]⟩⟩ 2354, .str ⟨⟨[115, 117, 98, 115, 116, 105, 116, 117, 116, 101]⟩⟩ 2355, .str ⟨⟨[105, 110, 115, 101, 114, 116, 95, 100, 101, 108, 101, 116, 101]⟩⟩ 2356]⟩ 0, ⟨[]⟩⟩
noncomputable def o162v1 (P : Params) : Obj := ⟨.type "tuple", none, .seq ⟨[]⟩ 0, ⟨[]⟩⟩
noncomputable def o163v1 (P : Params) : Obj := ⟨.none, none, .func ⟨⟨⟨[95, 108, 101, 118, 101, 110, 115, 104, 116, 101, 105, 110, 95, 100, 105, 115, 116, 97, 110, 99, 101]⟩⟩, ⟨⟨[95, 108, 101, 118, 101, 110, 115, 104, 116, 101, 105, 110, 95, 100, 105, 115, 116, 97, 110, 99, 101]⟩⟩, argsOf (topSt 13), .stmts (bodyOf (topSt 13)), scopeOf (topSt 13), 0, [], .none, .none, .none, .none, none, .none, .none, 0⟩, ⟨[]⟩⟩
noncomputable def o164v1 (P : Params) : Obj := ⟨.type "code", none, .fields ⟨[.str ⟨⟨[95, 108, 101, 118, 101, 110, 115, 104, 116, 101, 105, 110, 95, 100, 105, 115, 116, 97, 110, 99, 101]⟩⟩ 2340, .str ⟨⟨[95, 108, 101, 118, 101, 110, 115, 104, 116, 101, 105, 110, 95, 100, 105, 115, 116, 97, 110, 99, 101]⟩⟩ 2341, .str ⟨⟨[47, 99, 108, 97, 105, 109, 47, 99, 117, 116, 46, 112, 121]⟩⟩ 2342, .int (81) 0, .int (3) 0, .int (0) 0, .int (0) 0, .int (3) 0, .ref 159, .bool true, .int (181) 0, .ref 160, .none, .ref 161, .ref 162, .ref 163, .int (2357) 0, .int (81) 0, .str ⟨⟨[47, 99, 108, 97, 105, 109, 47, 99, 117, 116, 46, 112, 121]⟩⟩ 2358]⟩, ⟨[]⟩⟩
noncomputable def o165v1 (P : Params) : Obj := ⟨.type "function", none, .func ⟨⟨⟨[95, 108, 101, 118, 101, 110, 115, 104, 116, 101, 105, 110, 95, 100, 105, 115, 116, 97, 110, 99, 101]⟩⟩, ⟨⟨[95, 108, 101, 118, 101, 110, 115, 104, 116, 101, 105, 110, 95, 100, 105, 115, 116, 97, 110, 99, 101]⟩⟩, argsOf (topSt 13), .stmts (bodyOf (topSt 13)), scopeOf (topSt 13), 3, [], .none, .none, .none, .str ⟨⟨[99, 112, 121, 51, 49, 51, 46, 116, 114, 97, 99, 101, 98, 97, 99, 107]⟩⟩ 2324, none, .ref 164, .none, 0⟩, ⟨[]⟩⟩
noncomputable def o3v15 (P : Params) : Obj := ⟨.type "dict", none, .dict ⟨[⟨PyData.keyHash P ⟨⟨[95, 95, 110, 97, 109, 101, 95, 95]⟩⟩, .str ⟨⟨[95, 95, 110, 97, 109, 101, 95, 95]⟩⟩ 165, .str ⟨⟨[108, 97, 119, 95, 113, 117, 48, 48, 54, 56, 95, 48, 49]⟩⟩ 2360⟩, ⟨PyData.keyHash P ⟨⟨[95, 95, 100, 111, 99, 95, 95]⟩⟩, .str ⟨⟨[95, 95, 100, 111, 99, 95, 95]⟩⟩ 166, .none⟩, ⟨PyData.keyHash P ⟨⟨[95, 95, 112, 97, 99, 107, 97, 103, 101, 95, 95]⟩⟩, .str ⟨⟨[95, 95, 112, 97, 99, 107, 97, 103, 101, 95, 95]⟩⟩ 167, .none⟩, ⟨PyData.keyHash P ⟨⟨[95, 95, 108, 111, 97, 100, 101, 114, 95, 95]⟩⟩, .str ⟨⟨[95, 95, 108, 111, 97, 100, 101, 114, 95, 95]⟩⟩ 168, .builtin "__main__.__loader__#op\x61que"⟩, ⟨PyData.keyHash P ⟨⟨[95, 95, 115, 112, 101, 99, 95, 95]⟩⟩, .str ⟨⟨[95, 95, 115, 112, 101, 99, 95, 95]⟩⟩ 169, .none⟩, ⟨PyData.keyHash P ⟨⟨[95, 95, 97, 110, 110, 111, 116, 97, 116, 105, 111, 110, 115, 95, 95]⟩⟩, .str ⟨⟨[95, 95, 97, 110, 110, 111, 116, 97, 116, 105, 111, 110, 115, 95, 95]⟩⟩ 170, .ref 6⟩, ⟨PyData.keyHash P ⟨⟨[95, 95, 98, 117, 105, 108, 116, 105, 110, 115, 95, 95]⟩⟩, .str ⟨⟨[95, 95, 98, 117, 105, 108, 116, 105, 110, 115, 95, 95]⟩⟩ 171, .ref 4⟩, ⟨PyData.keyHash P ⟨⟨[95, 95, 102, 105, 108, 101, 95, 95]⟩⟩, .str ⟨⟨[95, 95, 102, 105, 108, 101, 95, 95]⟩⟩ 173, .str ⟨⟨[47, 99, 108, 97, 105, 109, 47, 99, 117, 116, 46, 112, 121]⟩⟩ 172⟩, ⟨PyData.keyHash P ⟨⟨[95, 95, 99, 97, 99, 104, 101, 100, 95, 95]⟩⟩, .str ⟨⟨[95, 95, 99, 97, 99, 104, 101, 100, 95, 95]⟩⟩ 174, .none⟩, ⟨PyData.keyHash P ⟨⟨[95, 119, 97, 108, 108]⟩⟩, .str ⟨⟨[95, 119, 97, 108, 108]⟩⟩ 193, .ref 21⟩, ⟨PyData.keyHash P ⟨⟨[87, 104, 105, 116, 101, 115, 112, 97, 99, 101]⟩⟩, .str ⟨⟨[87, 104, 105, 116, 101, 115, 112, 97, 99, 101]⟩⟩ 295, .ref 83⟩, ⟨PyData.keyHash P ⟨⟨[98, 49, 95, 115, 101, 116]⟩⟩, .str ⟨⟨[98, 49, 95, 115, 101, 116]⟩⟩ 357, .ref 95⟩, ⟨PyData.keyHash P ⟨⟨[105, 110, 95, 116, 97, 98, 108, 101, 95, 98, 49]⟩⟩, .str ⟨⟨[105, 110, 95, 116, 97, 98, 108, 101, 95, 98, 49]⟩⟩ 364, .ref 105⟩, ⟨PyData.keyHash P ⟨⟨[98, 51, 95, 101, 120, 99, 101, 112, 116, 105, 111, 110, 115]⟩⟩, .str ⟨⟨[98, 51, 95, 101, 120, 99, 101, 112, 116, 105, 111, 110, 115]⟩⟩ 2315, .ref 106⟩, ⟨PyData.keyHash P ⟨⟨[109, 97, 112, 95, 116, 97, 98, 108, 101, 95, 98, 51]⟩⟩, .str ⟨⟨[109, 97, 112, 95, 116, 97, 98, 108, 101, 95, 98, 51]⟩⟩ 2323, .ref 151⟩, ⟨PyData.keyHash P ⟨⟨[95, 77, 65, 88, 95, 83, 84, 82, 73, 78, 71, 95, 83, 73, 90, 69]⟩⟩, .str ⟨⟨[95, 77, 65, 88, 95, 83, 84, 82, 73, 78, 71, 95, 83, 73, 90, 69]⟩⟩ 2327, .int (40) 2326⟩, ⟨PyData.keyHash P ⟨⟨[95, 77, 79, 86, 69, 95, 67, 79, 83, 84]⟩⟩, .str ⟨⟨[95, 77, 79, 86, 69, 95, 67, 79, 83, 84]⟩⟩ 2329, .int (2) 2328⟩, ⟨PyData.keyHash P ⟨⟨[95, 67, 65, 83, 69, 95, 67, 79, 83, 84]⟩⟩, .str ⟨⟨[95, 67, 65, 83, 69, 95, 67, 79, 83, 84]⟩⟩ 2331, .int (1) 2330⟩, ⟨PyData.keyHash P ⟨⟨[95, 115, 117, 98, 115, 116, 105, 116, 117, 116, 105, 111, 110, 95, 99, 111, 115, 116]⟩⟩, .str ⟨⟨[95, 115, 117, 98, 115, 116, 105, 116, 117, 116, 105, 111, 110, 95, 99, 111, 115, 116]⟩⟩ 2339, .ref 158⟩, ⟨PyData.keyHash P ⟨⟨[95, 108, 101, 118, 101, 110, 115, 104, 116, 101, 105, 110, 95, 100, 105, 115, 116, 97, 110, 99, 101]⟩⟩, .str ⟨⟨[95, 108, 101, 118, 101, 110, 115, 104, 116, 101, 105, 110, 95, 100, 105, 115, 116, 97, 110, 99, 101]⟩⟩ 2359, .ref 165⟩]⟩ 20, ⟨[]⟩⟩
noncomputable def o3v16 (P : Params) : Obj := ⟨.type "dict", none, .dict ⟨[⟨PyData.keyHash P ⟨⟨[95, 95, 110, 97, 109, 101, 95, 95]⟩⟩, .str ⟨⟨[95, 95, 110, 97, 109, 101, 95, 95]⟩⟩ 165, .str ⟨⟨[108, 97, 119, 95, 113, 117, 48, 48, 54, 56, 95, 48, 49]⟩⟩ 2360⟩, ⟨PyData.keyHash P ⟨⟨[95, 95, 100, 111, 99, 95, 95]⟩⟩, .str ⟨⟨[95, 95, 100, 111, 99, 95, 95]⟩⟩ 166, .none⟩, ⟨PyData.keyHash P ⟨⟨[95, 95, 112, 97, 99, 107, 97, 103, 101, 95, 95]⟩⟩, .str ⟨⟨[95, 95, 112, 97, 99, 107, 97, 103, 101, 95, 95]⟩⟩ 167, .none⟩, ⟨PyData.keyHash P ⟨⟨[95, 95, 108, 111, 97, 100, 101, 114, 95, 95]⟩⟩, .str ⟨⟨[95, 95, 108, 111, 97, 100, 101, 114, 95, 95]⟩⟩ 168, .builtin "__main__.__loader__#op\x61que"⟩, ⟨PyData.keyHash P ⟨⟨[95, 95, 115, 112, 101, 99, 95, 95]⟩⟩, .str ⟨⟨[95, 95, 115, 112, 101, 99, 95, 95]⟩⟩ 169, .none⟩, ⟨PyData.keyHash P ⟨⟨[95, 95, 97, 110, 110, 111, 116, 97, 116, 105, 111, 110, 115, 95, 95]⟩⟩, .str ⟨⟨[95, 95, 97, 110, 110, 111, 116, 97, 116, 105, 111, 110, 115, 95, 95]⟩⟩ 170, .ref 6⟩, ⟨PyData.keyHash P ⟨⟨[95, 95, 98, 117, 105, 108, 116, 105, 110, 115, 95, 95]⟩⟩, .str ⟨⟨[95, 95, 98, 117, 105, 108, 116, 105, 110, 115, 95, 95]⟩⟩ 171, .ref 4⟩, ⟨PyData.keyHash P ⟨⟨[95, 95, 102, 105, 108, 101, 95, 95]⟩⟩, .str ⟨⟨[95, 95, 102, 105, 108, 101, 95, 95]⟩⟩ 173, .str ⟨⟨[47, 99, 108, 97, 105, 109, 47, 99, 117, 116, 46, 112, 121]⟩⟩ 172⟩, ⟨PyData.keyHash P ⟨⟨[95, 95, 99, 97, 99, 104, 101, 100, 95, 95]⟩⟩, .str ⟨⟨[95, 95, 99, 97, 99, 104, 101, 100, 95, 95]⟩⟩ 174, .none⟩, ⟨PyData.keyHash P ⟨⟨[95, 119, 97, 108, 108]⟩⟩, .str ⟨⟨[95, 119, 97, 108, 108]⟩⟩ 193, .ref 21⟩, ⟨PyData.keyHash P ⟨⟨[87, 104, 105, 116, 101, 115, 112, 97, 99, 101]⟩⟩, .str ⟨⟨[87, 104, 105, 116, 101, 115, 112, 97, 99, 101]⟩⟩ 295, .ref 83⟩, ⟨PyData.keyHash P ⟨⟨[98, 49, 95, 115, 101, 116]⟩⟩, .str ⟨⟨[98, 49, 95, 115, 101, 116]⟩⟩ 357, .ref 95⟩, ⟨PyData.keyHash P ⟨⟨[105, 110, 95, 116, 97, 98, 108, 101, 95, 98, 49]⟩⟩, .str ⟨⟨[105, 110, 95, 116, 97, 98, 108, 101, 95, 98, 49]⟩⟩ 364, .ref 105⟩, ⟨PyData.keyHash P ⟨⟨[98, 51, 95, 101, 120, 99, 101, 112, 116, 105, 111, 110, 115]⟩⟩, .str ⟨⟨[98, 51, 95, 101, 120, 99, 101, 112, 116, 105, 111, 110, 115]⟩⟩ 2315, .ref 106⟩, ⟨PyData.keyHash P ⟨⟨[109, 97, 112, 95, 116, 97, 98, 108, 101, 95, 98, 51]⟩⟩, .str ⟨⟨[109, 97, 112, 95, 116, 97, 98, 108, 101, 95, 98, 51]⟩⟩ 2323, .ref 151⟩, ⟨PyData.keyHash P ⟨⟨[95, 77, 65, 88, 95, 83, 84, 82, 73, 78, 71, 95, 83, 73, 90, 69]⟩⟩, .str ⟨⟨[95, 77, 65, 88, 95, 83, 84, 82, 73, 78, 71, 95, 83, 73, 90, 69]⟩⟩ 2327, .int (40) 2326⟩, ⟨PyData.keyHash P ⟨⟨[95, 77, 79, 86, 69, 95, 67, 79, 83, 84]⟩⟩, .str ⟨⟨[95, 77, 79, 86, 69, 95, 67, 79, 83, 84]⟩⟩ 2329, .int (2) 2328⟩, ⟨PyData.keyHash P ⟨⟨[95, 67, 65, 83, 69, 95, 67, 79, 83, 84]⟩⟩, .str ⟨⟨[95, 67, 65, 83, 69, 95, 67, 79, 83, 84]⟩⟩ 2331, .int (1) 2330⟩, ⟨PyData.keyHash P ⟨⟨[95, 115, 117, 98, 115, 116, 105, 116, 117, 116, 105, 111, 110, 95, 99, 111, 115, 116]⟩⟩, .str ⟨⟨[95, 115, 117, 98, 115, 116, 105, 116, 117, 116, 105, 111, 110, 95, 99, 111, 115, 116]⟩⟩ 2339, .ref 158⟩, ⟨PyData.keyHash P ⟨⟨[95, 108, 101, 118, 101, 110, 115, 104, 116, 101, 105, 110, 95, 100, 105, 115, 116, 97, 110, 99, 101]⟩⟩, .str ⟨⟨[95, 108, 101, 118, 101, 110, 115, 104, 116, 101, 105, 110, 95, 100, 105, 115, 116, 97, 110, 99, 101]⟩⟩ 2359, .ref 165⟩, ⟨PyData.keyHash P ⟨⟨[95, 108, 97, 119, 95, 99, 111, 108, 117, 109, 110, 115]⟩⟩, .str ⟨⟨[95, 108, 97, 119, 95, 99, 111, 108, 117, 109, 110, 115]⟩⟩ 2373, .ref 172⟩]⟩ 21, ⟨[]⟩⟩
noncomputable def o12v8 (P : Params) : Obj := ⟨.none, none, .fields ⟨[.int (1) 0, .int (0) 0, .ref 20, .int (5) 0, .int (0) 0, .ref 27, .int (63) 0, .int (0) 0, .ref 104, .int (66) 0, .int (0) 0, .ref 150, .int (75) 0, .int (0) 0, .ref 157, .int (81) 0, .int (0) 0, .ref 164, .int (120) 0, .int (0) 0, .ref 171]⟩, ⟨[]⟩⟩
noncomputable def o166v1 (P : Params) : Obj := ⟨.type "tuple", none, .seq ⟨[]⟩ 0, ⟨[]⟩⟩
noncomputable def o167v1 (P : Params) : Obj := ⟨.none, none, .fields ⟨[]⟩, ⟨[]⟩⟩
noncomputable def o168v1 (P : Params) : Obj := ⟨.type "tuple", none, .seq ⟨[.str ⟨⟨[108, 101, 97, 100]⟩⟩ 2365, .str ⟨⟨[109, 111, 115, 116]⟩⟩ 2366, .str ⟨⟨[99, 111, 108, 117, 109, 110, 115]⟩⟩ 2367, .str ⟨⟨[115, 105, 122, 101]⟩⟩ 2368, .str ⟨⟨[99, 111, 108, 117, 109, 110]⟩⟩ 2369, .str ⟨⟨[115, 105, 103, 110]⟩⟩ 2370]⟩ 0, ⟨[]⟩⟩
noncomputable def o169v1 (P : Params) : Obj := ⟨.type "tuple", none, .seq ⟨[]⟩ 0, ⟨[]⟩⟩
noncomputable def o170v1 (P : Params) : Obj := ⟨.none, none, .func ⟨⟨⟨[95, 108, 97, 119, 95, 99, 111, 108, 117, 109, 110, 115]⟩⟩, ⟨⟨[95, 108, 97, 119, 95, 99, 111, 108, 117, 109, 110, 115]⟩⟩, argsOf (topSt 15), .stmts (bodyOf (topSt 15)), scopeOf (topSt 15), 0, [], .none, .none, .none, .none, none, .none, .none, 0⟩, ⟨[]⟩⟩
noncomputable def o171v1 (P : Params) : Obj := ⟨.type "code", none, .fields ⟨[.str ⟨⟨[95, 108, 97, 119, 95, 99, 111, 108, 117, 109, 110, 115]⟩⟩ 2362, .str ⟨⟨[95, 108, 97, 119, 95, 99, 111, 108, 117, 109, 110, 115]⟩⟩ 2363, .str ⟨⟨[47, 99, 108, 97, 105, 109, 47, 99, 117, 116, 46, 112, 121]⟩⟩ 2364, .int (120) 0, .int (2) 0, .int (0) 0, .int (0) 0, .int (3) 0, .ref 166, .bool true, .int (181) 0, .ref 167, .none, .ref 168, .ref 169, .ref 170, .int (2371) 0, .int (120) 0, .str ⟨⟨[47, 99, 108, 97, 105, 109, 47, 99, 117, 116, 46, 112, 121]⟩⟩ 2372]⟩, ⟨[]⟩⟩
noncomputable def o172v1 (P : Params) : Obj := ⟨.type "function", none, .func ⟨⟨⟨[95, 108, 97, 119, 95, 99, 111, 108, 117, 109, 110, 115]⟩⟩, ⟨⟨[95, 108, 97, 119, 95, 99, 111, 108, 117, 109, 110, 115]⟩⟩, argsOf (topSt 15), .stmts (bodyOf (topSt 15)), scopeOf (topSt 15), 3, [], .none, .none, .none, .str ⟨⟨[108, 97, 119, 95, 113, 117, 48, 48, 54, 56, 95, 48, 49]⟩⟩ 2360, none, .ref 171, .none, 0⟩, ⟨[]⟩⟩
noncomputable def o3v17 (P : Params) : Obj := ⟨.type "dict", none, .dict ⟨[⟨PyData.keyHash P ⟨⟨[95, 95, 110, 97, 109, 101, 95, 95]⟩⟩, .str ⟨⟨[95, 95, 110, 97, 109, 101, 95, 95]⟩⟩ 165, .str ⟨⟨[108, 97, 119, 95, 113, 117, 48, 48, 54, 56, 95, 48, 49]⟩⟩ 2360⟩, ⟨PyData.keyHash P ⟨⟨[95, 95, 100, 111, 99, 95, 95]⟩⟩, .str ⟨⟨[95, 95, 100, 111, 99, 95, 95]⟩⟩ 166, .none⟩, ⟨PyData.keyHash P ⟨⟨[95, 95, 112, 97, 99, 107, 97, 103, 101, 95, 95]⟩⟩, .str ⟨⟨[95, 95, 112, 97, 99, 107, 97, 103, 101, 95, 95]⟩⟩ 167, .none⟩, ⟨PyData.keyHash P ⟨⟨[95, 95, 108, 111, 97, 100, 101, 114, 95, 95]⟩⟩, .str ⟨⟨[95, 95, 108, 111, 97, 100, 101, 114, 95, 95]⟩⟩ 168, .builtin "__main__.__loader__#op\x61que"⟩, ⟨PyData.keyHash P ⟨⟨[95, 95, 115, 112, 101, 99, 95, 95]⟩⟩, .str ⟨⟨[95, 95, 115, 112, 101, 99, 95, 95]⟩⟩ 169, .none⟩, ⟨PyData.keyHash P ⟨⟨[95, 95, 97, 110, 110, 111, 116, 97, 116, 105, 111, 110, 115, 95, 95]⟩⟩, .str ⟨⟨[95, 95, 97, 110, 110, 111, 116, 97, 116, 105, 111, 110, 115, 95, 95]⟩⟩ 170, .ref 6⟩, ⟨PyData.keyHash P ⟨⟨[95, 95, 98, 117, 105, 108, 116, 105, 110, 115, 95, 95]⟩⟩, .str ⟨⟨[95, 95, 98, 117, 105, 108, 116, 105, 110, 115, 95, 95]⟩⟩ 171, .ref 4⟩, ⟨PyData.keyHash P ⟨⟨[95, 95, 102, 105, 108, 101, 95, 95]⟩⟩, .str ⟨⟨[95, 95, 102, 105, 108, 101, 95, 95]⟩⟩ 173, .str ⟨⟨[47, 99, 108, 97, 105, 109, 47, 99, 117, 116, 46, 112, 121]⟩⟩ 172⟩, ⟨PyData.keyHash P ⟨⟨[95, 95, 99, 97, 99, 104, 101, 100, 95, 95]⟩⟩, .str ⟨⟨[95, 95, 99, 97, 99, 104, 101, 100, 95, 95]⟩⟩ 174, .none⟩, ⟨PyData.keyHash P ⟨⟨[95, 119, 97, 108, 108]⟩⟩, .str ⟨⟨[95, 119, 97, 108, 108]⟩⟩ 193, .ref 21⟩, ⟨PyData.keyHash P ⟨⟨[87, 104, 105, 116, 101, 115, 112, 97, 99, 101]⟩⟩, .str ⟨⟨[87, 104, 105, 116, 101, 115, 112, 97, 99, 101]⟩⟩ 295, .ref 83⟩, ⟨PyData.keyHash P ⟨⟨[98, 49, 95, 115, 101, 116]⟩⟩, .str ⟨⟨[98, 49, 95, 115, 101, 116]⟩⟩ 357, .ref 95⟩, ⟨PyData.keyHash P ⟨⟨[105, 110, 95, 116, 97, 98, 108, 101, 95, 98, 49]⟩⟩, .str ⟨⟨[105, 110, 95, 116, 97, 98, 108, 101, 95, 98, 49]⟩⟩ 364, .ref 105⟩, ⟨PyData.keyHash P ⟨⟨[98, 51, 95, 101, 120, 99, 101, 112, 116, 105, 111, 110, 115]⟩⟩, .str ⟨⟨[98, 51, 95, 101, 120, 99, 101, 112, 116, 105, 111, 110, 115]⟩⟩ 2315, .ref 106⟩, ⟨PyData.keyHash P ⟨⟨[109, 97, 112, 95, 116, 97, 98, 108, 101, 95, 98, 51]⟩⟩, .str ⟨⟨[109, 97, 112, 95, 116, 97, 98, 108, 101, 95, 98, 51]⟩⟩ 2323, .ref 151⟩, ⟨PyData.keyHash P ⟨⟨[95, 77, 65, 88, 95, 83, 84, 82, 73, 78, 71, 95, 83, 73, 90, 69]⟩⟩, .str ⟨⟨[95, 77, 65, 88, 95, 83, 84, 82, 73, 78, 71, 95, 83, 73, 90, 69]⟩⟩ 2327, .int (40) 2326⟩, ⟨PyData.keyHash P ⟨⟨[95, 77, 79, 86, 69, 95, 67, 79, 83, 84]⟩⟩, .str ⟨⟨[95, 77, 79, 86, 69, 95, 67, 79, 83, 84]⟩⟩ 2329, .int (2) 2328⟩, ⟨PyData.keyHash P ⟨⟨[95, 67, 65, 83, 69, 95, 67, 79, 83, 84]⟩⟩, .str ⟨⟨[95, 67, 65, 83, 69, 95, 67, 79, 83, 84]⟩⟩ 2331, .int (1) 2330⟩, ⟨PyData.keyHash P ⟨⟨[95, 115, 117, 98, 115, 116, 105, 116, 117, 116, 105, 111, 110, 95, 99, 111, 115, 116]⟩⟩, .str ⟨⟨[95, 115, 117, 98, 115, 116, 105, 116, 117, 116, 105, 111, 110, 95, 99, 111, 115, 116]⟩⟩ 2339, .ref 158⟩, ⟨PyData.keyHash P ⟨⟨[95, 108, 101, 118, 101, 110, 115, 104, 116, 101, 105, 110, 95, 100, 105, 115, 116, 97, 110, 99, 101]⟩⟩, .str ⟨⟨[95, 108, 101, 118, 101, 110, 115, 104, 116, 101, 105, 110, 95, 100, 105, 115, 116, 97, 110, 99, 101]⟩⟩ 2359, .ref 165⟩, ⟨PyData.keyHash P ⟨⟨[95, 108, 97, 119, 95, 99, 111, 108, 117, 109, 110, 115]⟩⟩, .str ⟨⟨[95, 108, 97, 119, 95, 99, 111, 108, 117, 109, 110, 115]⟩⟩ 2373, .ref 172⟩, ⟨PyData.keyHash P ⟨⟨[95, 108, 97, 119, 95, 112, 97, 114, 101, 110, 116, 115]⟩⟩, .str ⟨⟨[95, 108, 97, 119, 95, 112, 97, 114, 101, 110, 116, 115]⟩⟩ 2379, .ref 177⟩]⟩ 22, ⟨[]⟩⟩
noncomputable def o12v9 (P : Params) : Obj := ⟨.none, none, .fields ⟨[.int (1) 0, .int (0) 0, .ref 20, .int (5) 0, .int (0) 0, .ref 27, .int (63) 0, .int (0) 0, .ref 104, .int (66) 0, .int (0) 0, .ref 150, .int (75) 0, .int (0) 0, .ref 157, .int (81) 0, .int (0) 0, .ref 164, .int (120) 0, .int (0) 0, .ref 171, .int (128) 0, .int (0) 0, .ref 176]⟩, ⟨[]⟩⟩
noncomputable def o173v1 (P : Params) : Obj := ⟨.type "tuple", none, .seq ⟨[]⟩ 0, ⟨[]⟩⟩
noncomputable def o174v1 (P : Params) : Obj := ⟨.none, none, .fields ⟨[]⟩, ⟨[]⟩⟩
noncomputable def o175v1 (P : Params) : Obj := ⟨.none, none, .func ⟨⟨⟨[95, 108, 97, 119, 95, 112, 97, 114, 101, 110, 116, 115]⟩⟩, ⟨⟨[95, 108, 97, 119, 95, 112, 97, 114, 101, 110, 116, 115]⟩⟩, argsOf (topSt 16), .stmts (bodyOf (topSt 16)), scopeOf (topSt 16), 0, [], .none, .none, .none, .none, none, .none, .none, 0⟩, ⟨[]⟩⟩
noncomputable def o176v1 (P : Params) : Obj := ⟨.type "code", none, .fields ⟨[.str ⟨⟨[95, 108, 97, 119, 95, 112, 97, 114, 101, 110, 116, 115]⟩⟩ 2374, .str ⟨⟨[95, 108, 97, 119, 95, 112, 97, 114, 101, 110, 116, 115]⟩⟩ 2375, .str ⟨⟨[47, 99, 108, 97, 105, 109, 47, 99, 117, 116, 46, 112, 121]⟩⟩ 2376, .int (128) 0, .int (1) 0, .int (0) 0, .int (0) 0, .int (3) 0, .ref 173, .bool true, .int (181) 0, .ref 174, .none, .none, .none, .ref 175, .int (2377) 0, .int (128) 0, .str ⟨⟨[47, 99, 108, 97, 105, 109, 47, 99, 117, 116, 46, 112, 121]⟩⟩ 2378]⟩, ⟨[]⟩⟩
noncomputable def o177v1 (P : Params) : Obj := ⟨.type "function", none, .func ⟨⟨⟨[95, 108, 97, 119, 95, 112, 97, 114, 101, 110, 116, 115]⟩⟩, ⟨⟨[95, 108, 97, 119, 95, 112, 97, 114, 101, 110, 116, 115]⟩⟩, argsOf (topSt 16), .stmts (bodyOf (topSt 16)), scopeOf (topSt 16), 3, [], .none, .none, .none, .str ⟨⟨[108, 97, 119, 95, 113, 117, 48, 48, 54, 56, 95, 48, 49]⟩⟩ 2360, none, .ref 176, .none, 0⟩, ⟨[]⟩⟩
noncomputable def o3v18 (P : Params) : Obj := ⟨.type "dict", none, .dict ⟨[⟨PyData.keyHash P ⟨⟨[95, 95, 110, 97, 109, 101, 95, 95]⟩⟩, .str ⟨⟨[95, 95, 110, 97, 109, 101, 95, 95]⟩⟩ 165, .str ⟨⟨[108, 97, 119, 95, 113, 117, 48, 48, 54, 56, 95, 48, 49]⟩⟩ 2360⟩, ⟨PyData.keyHash P ⟨⟨[95, 95, 100, 111, 99, 95, 95]⟩⟩, .str ⟨⟨[95, 95, 100, 111, 99, 95, 95]⟩⟩ 166, .none⟩, ⟨PyData.keyHash P ⟨⟨[95, 95, 112, 97, 99, 107, 97, 103, 101, 95, 95]⟩⟩, .str ⟨⟨[95, 95, 112, 97, 99, 107, 97, 103, 101, 95, 95]⟩⟩ 167, .none⟩, ⟨PyData.keyHash P ⟨⟨[95, 95, 108, 111, 97, 100, 101, 114, 95, 95]⟩⟩, .str ⟨⟨[95, 95, 108, 111, 97, 100, 101, 114, 95, 95]⟩⟩ 168, .builtin "__main__.__loader__#op\x61que"⟩, ⟨PyData.keyHash P ⟨⟨[95, 95, 115, 112, 101, 99, 95, 95]⟩⟩, .str ⟨⟨[95, 95, 115, 112, 101, 99, 95, 95]⟩⟩ 169, .none⟩, ⟨PyData.keyHash P ⟨⟨[95, 95, 97, 110, 110, 111, 116, 97, 116, 105, 111, 110, 115, 95, 95]⟩⟩, .str ⟨⟨[95, 95, 97, 110, 110, 111, 116, 97, 116, 105, 111, 110, 115, 95, 95]⟩⟩ 170, .ref 6⟩, ⟨PyData.keyHash P ⟨⟨[95, 95, 98, 117, 105, 108, 116, 105, 110, 115, 95, 95]⟩⟩, .str ⟨⟨[95, 95, 98, 117, 105, 108, 116, 105, 110, 115, 95, 95]⟩⟩ 171, .ref 4⟩, ⟨PyData.keyHash P ⟨⟨[95, 95, 102, 105, 108, 101, 95, 95]⟩⟩, .str ⟨⟨[95, 95, 102, 105, 108, 101, 95, 95]⟩⟩ 173, .str ⟨⟨[47, 99, 108, 97, 105, 109, 47, 99, 117, 116, 46, 112, 121]⟩⟩ 172⟩, ⟨PyData.keyHash P ⟨⟨[95, 95, 99, 97, 99, 104, 101, 100, 95, 95]⟩⟩, .str ⟨⟨[95, 95, 99, 97, 99, 104, 101, 100, 95, 95]⟩⟩ 174, .none⟩, ⟨PyData.keyHash P ⟨⟨[95, 119, 97, 108, 108]⟩⟩, .str ⟨⟨[95, 119, 97, 108, 108]⟩⟩ 193, .ref 21⟩, ⟨PyData.keyHash P ⟨⟨[87, 104, 105, 116, 101, 115, 112, 97, 99, 101]⟩⟩, .str ⟨⟨[87, 104, 105, 116, 101, 115, 112, 97, 99, 101]⟩⟩ 295, .ref 83⟩, ⟨PyData.keyHash P ⟨⟨[98, 49, 95, 115, 101, 116]⟩⟩, .str ⟨⟨[98, 49, 95, 115, 101, 116]⟩⟩ 357, .ref 95⟩, ⟨PyData.keyHash P ⟨⟨[105, 110, 95, 116, 97, 98, 108, 101, 95, 98, 49]⟩⟩, .str ⟨⟨[105, 110, 95, 116, 97, 98, 108, 101, 95, 98, 49]⟩⟩ 364, .ref 105⟩, ⟨PyData.keyHash P ⟨⟨[98, 51, 95, 101, 120, 99, 101, 112, 116, 105, 111, 110, 115]⟩⟩, .str ⟨⟨[98, 51, 95, 101, 120, 99, 101, 112, 116, 105, 111, 110, 115]⟩⟩ 2315, .ref 106⟩, ⟨PyData.keyHash P ⟨⟨[109, 97, 112, 95, 116, 97, 98, 108, 101, 95, 98, 51]⟩⟩, .str ⟨⟨[109, 97, 112, 95, 116, 97, 98, 108, 101, 95, 98, 51]⟩⟩ 2323, .ref 151⟩, ⟨PyData.keyHash P ⟨⟨[95, 77, 65, 88, 95, 83, 84, 82, 73, 78, 71, 95, 83, 73, 90, 69]⟩⟩, .str ⟨⟨[95, 77, 65, 88, 95, 83, 84, 82, 73, 78, 71, 95, 83, 73, 90, 69]⟩⟩ 2327, .int (40) 2326⟩, ⟨PyData.keyHash P ⟨⟨[95, 77, 79, 86, 69, 95, 67, 79, 83, 84]⟩⟩, .str ⟨⟨[95, 77, 79, 86, 69, 95, 67, 79, 83, 84]⟩⟩ 2329, .int (2) 2328⟩, ⟨PyData.keyHash P ⟨⟨[95, 67, 65, 83, 69, 95, 67, 79, 83, 84]⟩⟩, .str ⟨⟨[95, 67, 65, 83, 69, 95, 67, 79, 83, 84]⟩⟩ 2331, .int (1) 2330⟩, ⟨PyData.keyHash P ⟨⟨[95, 115, 117, 98, 115, 116, 105, 116, 117, 116, 105, 111, 110, 95, 99, 111, 115, 116]⟩⟩, .str ⟨⟨[95, 115, 117, 98, 115, 116, 105, 116, 117, 116, 105, 111, 110, 95, 99, 111, 115, 116]⟩⟩ 2339, .ref 158⟩, ⟨PyData.keyHash P ⟨⟨[95, 108, 101, 118, 101, 110, 115, 104, 116, 101, 105, 110, 95, 100, 105, 115, 116, 97, 110, 99, 101]⟩⟩, .str ⟨⟨[95, 108, 101, 118, 101, 110, 115, 104, 116, 101, 105, 110, 95, 100, 105, 115, 116, 97, 110, 99, 101]⟩⟩ 2359, .ref 165⟩, ⟨PyData.keyHash P ⟨⟨[95, 108, 97, 119, 95, 99, 111, 108, 117, 109, 110, 115]⟩⟩, .str ⟨⟨[95, 108, 97, 119, 95, 99, 111, 108, 117, 109, 110, 115]⟩⟩ 2373, .ref 172⟩, ⟨PyData.keyHash P ⟨⟨[95, 108, 97, 119, 95, 112, 97, 114, 101, 110, 116, 115]⟩⟩, .str ⟨⟨[95, 108, 97, 119, 95, 112, 97, 114, 101, 110, 116, 115]⟩⟩ 2379, .ref 177⟩, ⟨PyData.keyHash P ⟨⟨[95, 108, 97, 119, 95, 116, 117, 114, 110, 101, 100]⟩⟩, .str ⟨⟨[95, 108, 97, 119, 95, 116, 117, 114, 110, 101, 100]⟩⟩ 2385, .ref 182⟩]⟩ 23, ⟨[]⟩⟩
noncomputable def o12v10 (P : Params) : Obj := ⟨.none, none, .fields ⟨[.int (1) 0, .int (0) 0, .ref 20, .int (5) 0, .int (0) 0, .ref 27, .int (63) 0, .int (0) 0, .ref 104, .int (66) 0, .int (0) 0, .ref 150, .int (75) 0, .int (0) 0, .ref 157, .int (81) 0, .int (0) 0, .ref 164, .int (120) 0, .int (0) 0, .ref 171, .int (128) 0, .int (0) 0, .ref 176, .int (140) 0, .int (0) 0, .ref 181]⟩, ⟨[]⟩⟩
noncomputable def o178v1 (P : Params) : Obj := ⟨.type "tuple", none, .seq ⟨[]⟩ 0, ⟨[]⟩⟩
noncomputable def o179v1 (P : Params) : Obj := ⟨.none, none, .fields ⟨[]⟩, ⟨[]⟩⟩
noncomputable def o180v1 (P : Params) : Obj := ⟨.none, none, .func ⟨⟨⟨[95, 108, 97, 119, 95, 116, 117, 114, 110, 101, 100]⟩⟩, ⟨⟨[95, 108, 97, 119, 95, 116, 117, 114, 110, 101, 100]⟩⟩, argsOf (topSt 17), .stmts (bodyOf (topSt 17)), scopeOf (topSt 17), 0, [], .none, .none, .none, .none, none, .none, .none, 0⟩, ⟨[]⟩⟩
noncomputable def o181v1 (P : Params) : Obj := ⟨.type "code", none, .fields ⟨[.str ⟨⟨[95, 108, 97, 119, 95, 116, 117, 114, 110, 101, 100]⟩⟩ 2380, .str ⟨⟨[95, 108, 97, 119, 95, 116, 117, 114, 110, 101, 100]⟩⟩ 2381, .str ⟨⟨[47, 99, 108, 97, 105, 109, 47, 99, 117, 116, 46, 112, 121]⟩⟩ 2382, .int (140) 0, .int (2) 0, .int (0) 0, .int (0) 0, .int (3) 0, .ref 178, .bool true, .int (181) 0, .ref 179, .none, .none, .none, .ref 180, .int (2383) 0, .int (140) 0, .str ⟨⟨[47, 99, 108, 97, 105, 109, 47, 99, 117, 116, 46, 112, 121]⟩⟩ 2384]⟩, ⟨[]⟩⟩
noncomputable def o182v1 (P : Params) : Obj := ⟨.type "function", none, .func ⟨⟨⟨[95, 108, 97, 119, 95, 116, 117, 114, 110, 101, 100]⟩⟩, ⟨⟨[95, 108, 97, 119, 95, 116, 117, 114, 110, 101, 100]⟩⟩, argsOf (topSt 17), .stmts (bodyOf (topSt 17)), scopeOf (topSt 17), 3, [], .none, .none, .none, .str ⟨⟨[108, 97, 119, 95, 113, 117, 48, 48, 54, 56, 95, 48, 49]⟩⟩ 2360, none, .ref 181, .none, 0⟩, ⟨[]⟩⟩
noncomputable def o3v19 (P : Params) : Obj := ⟨.type "dict", none, .dict ⟨[⟨PyData.keyHash P ⟨⟨[95, 95, 110, 97, 109, 101, 95, 95]⟩⟩, .str ⟨⟨[95, 95, 110, 97, 109, 101, 95, 95]⟩⟩ 165, .str ⟨⟨[108, 97, 119, 95, 113, 117, 48, 48, 54, 56, 95, 48, 49]⟩⟩ 2360⟩, ⟨PyData.keyHash P ⟨⟨[95, 95, 100, 111, 99, 95, 95]⟩⟩, .str ⟨⟨[95, 95, 100, 111, 99, 95, 95]⟩⟩ 166, .none⟩, ⟨PyData.keyHash P ⟨⟨[95, 95, 112, 97, 99, 107, 97, 103, 101, 95, 95]⟩⟩, .str ⟨⟨[95, 95, 112, 97, 99, 107, 97, 103, 101, 95, 95]⟩⟩ 167, .none⟩, ⟨PyData.keyHash P ⟨⟨[95, 95, 108, 111, 97, 100, 101, 114, 95, 95]⟩⟩, .str ⟨⟨[95, 95, 108, 111, 97, 100, 101, 114, 95, 95]⟩⟩ 168, .builtin "__main__.__loader__#op\x61que"⟩, ⟨PyData.keyHash P ⟨⟨[95, 95, 115, 112, 101, 99, 95, 95]⟩⟩, .str ⟨⟨[95, 95, 115, 112, 101, 99, 95, 95]⟩⟩ 169, .none⟩, ⟨PyData.keyHash P ⟨⟨[95, 95, 97, 110, 110, 111, 116, 97, 116, 105, 111, 110, 115, 95, 95]⟩⟩, .str ⟨⟨[95, 95, 97, 110, 110, 111, 116, 97, 116, 105, 111, 110, 115, 95, 95]⟩⟩ 170, .ref 6⟩, ⟨PyData.keyHash P ⟨⟨[95, 95, 98, 117, 105, 108, 116, 105, 110, 115, 95, 95]⟩⟩, .str ⟨⟨[95, 95, 98, 117, 105, 108, 116, 105, 110, 115, 95, 95]⟩⟩ 171, .ref 4⟩, ⟨PyData.keyHash P ⟨⟨[95, 95, 102, 105, 108, 101, 95, 95]⟩⟩, .str ⟨⟨[95, 95, 102, 105, 108, 101, 95, 95]⟩⟩ 173, .str ⟨⟨[47, 99, 108, 97, 105, 109, 47, 99, 117, 116, 46, 112, 121]⟩⟩ 172⟩, ⟨PyData.keyHash P ⟨⟨[95, 95, 99, 97, 99, 104, 101, 100, 95, 95]⟩⟩, .str ⟨⟨[95, 95, 99, 97, 99, 104, 101, 100, 95, 95]⟩⟩ 174, .none⟩, ⟨PyData.keyHash P ⟨⟨[95, 119, 97, 108, 108]⟩⟩, .str ⟨⟨[95, 119, 97, 108, 108]⟩⟩ 193, .ref 21⟩, ⟨PyData.keyHash P ⟨⟨[87, 104, 105, 116, 101, 115, 112, 97, 99, 101]⟩⟩, .str ⟨⟨[87, 104, 105, 116, 101, 115, 112, 97, 99, 101]⟩⟩ 295, .ref 83⟩, ⟨PyData.keyHash P ⟨⟨[98, 49, 95, 115, 101, 116]⟩⟩, .str ⟨⟨[98, 49, 95, 115, 101, 116]⟩⟩ 357, .ref 95⟩, ⟨PyData.keyHash P ⟨⟨[105, 110, 95, 116, 97, 98, 108, 101, 95, 98, 49]⟩⟩, .str ⟨⟨[105, 110, 95, 116, 97, 98, 108, 101, 95, 98, 49]⟩⟩ 364, .ref 105⟩, ⟨PyData.keyHash P ⟨⟨[98, 51, 95, 101, 120, 99, 101, 112, 116, 105, 111, 110, 115]⟩⟩, .str ⟨⟨[98, 51, 95, 101, 120, 99, 101, 112, 116, 105, 111, 110, 115]⟩⟩ 2315, .ref 106⟩, ⟨PyData.keyHash P ⟨⟨[109, 97, 112, 95, 116, 97, 98, 108, 101, 95, 98, 51]⟩⟩, .str ⟨⟨[109, 97, 112, 95, 116, 97, 98, 108, 101, 95, 98, 51]⟩⟩ 2323, .ref 151⟩, ⟨PyData.keyHash P ⟨⟨[95, 77, 65, 88, 95, 83, 84, 82, 73, 78, 71, 95, 83, 73, 90, 69]⟩⟩, .str ⟨⟨[95, 77, 65, 88, 95, 83, 84, 82, 73, 78, 71, 95, 83, 73, 90, 69]⟩⟩ 2327, .int (40) 2326⟩, ⟨PyData.keyHash P ⟨⟨[95, 77, 79, 86, 69, 95, 67, 79, 83, 84]⟩⟩, .str ⟨⟨[95, 77, 79, 86, 69, 95, 67, 79, 83, 84]⟩⟩ 2329, .int (2) 2328⟩, ⟨PyData.keyHash P ⟨⟨[95, 67, 65, 83, 69, 95, 67, 79, 83, 84]⟩⟩, .str ⟨⟨[95, 67, 65, 83, 69, 95, 67, 79, 83, 84]⟩⟩ 2331, .int (1) 2330⟩, ⟨PyData.keyHash P ⟨⟨[95, 115, 117, 98, 115, 116, 105, 116, 117, 116, 105, 111, 110, 95, 99, 111, 115, 116]⟩⟩, .str ⟨⟨[95, 115, 117, 98, 115, 116, 105, 116, 117, 116, 105, 111, 110, 95, 99, 111, 115, 116]⟩⟩ 2339, .ref 158⟩, ⟨PyData.keyHash P ⟨⟨[95, 108, 101, 118, 101, 110, 115, 104, 116, 101, 105, 110, 95, 100, 105, 115, 116, 97, 110, 99, 101]⟩⟩, .str ⟨⟨[95, 108, 101, 118, 101, 110, 115, 104, 116, 101, 105, 110, 95, 100, 105, 115, 116, 97, 110, 99, 101]⟩⟩ 2359, .ref 165⟩, ⟨PyData.keyHash P ⟨⟨[95, 108, 97, 119, 95, 99, 111, 108, 117, 109, 110, 115]⟩⟩, .str ⟨⟨[95, 108, 97, 119, 95, 99, 111, 108, 117, 109, 110, 115]⟩⟩ 2373, .ref 172⟩, ⟨PyData.keyHash P ⟨⟨[95, 108, 97, 119, 95, 112, 97, 114, 101, 110, 116, 115]⟩⟩, .str ⟨⟨[95, 108, 97, 119, 95, 112, 97, 114, 101, 110, 116, 115]⟩⟩ 2379, .ref 177⟩, ⟨PyData.keyHash P ⟨⟨[95, 108, 97, 119, 95, 116, 117, 114, 110, 101, 100]⟩⟩, .str ⟨⟨[95, 108, 97, 119, 95, 116, 117, 114, 110, 101, 100]⟩⟩ 2385, .ref 182⟩, ⟨PyData.keyHash P ⟨⟨[108, 97, 119]⟩⟩, .str ⟨⟨[108, 97, 119]⟩⟩ 2391, .ref 187⟩]⟩ 24, ⟨[]⟩⟩
noncomputable def o12v11 (P : Params) : Obj := ⟨.none, none, .fields ⟨[.int (1) 0, .int (0) 0, .ref 20, .int (5) 0, .int (0) 0, .ref 27, .int (63) 0, .int (0) 0, .ref 104, .int (66) 0, .int (0) 0, .ref 150, .int (75) 0, .int (0) 0, .ref 157, .int (81) 0, .int (0) 0, .ref 164, .int (120) 0, .int (0) 0, .ref 171, .int (128) 0, .int (0) 0, .ref 176, .int (140) 0, .int (0) 0, .ref 181, .int (155) 0, .int (0) 0, .ref 186]⟩, ⟨[]⟩⟩
noncomputable def o183v1 (P : Params) : Obj := ⟨.type "tuple", none, .seq ⟨[]⟩ 0, ⟨[]⟩⟩
noncomputable def o184v1 (P : Params) : Obj := ⟨.none, none, .fields ⟨[]⟩, ⟨[]⟩⟩
noncomputable def o185v1 (P : Params) : Obj := ⟨.none, none, .func ⟨⟨⟨[108, 97, 119]⟩⟩, ⟨⟨[108, 97, 119]⟩⟩, argsOf (topSt 18), .stmts (bodyOf (topSt 18)), scopeOf (topSt 18), 0, [], .none, .none, .none, .none, none, .none, .none, 0⟩, ⟨[]⟩⟩
noncomputable def o186v1 (P : Params) : Obj := ⟨.type "code", none, .fields ⟨[.str ⟨⟨[108, 97, 119]⟩⟩ 2386, .str ⟨⟨[108, 97, 119]⟩⟩ 2387, .str ⟨⟨[47, 99, 108, 97, 105, 109, 47, 99, 117, 116, 46, 112, 121]⟩⟩ 2388, .int (155) 0, .int (1) 0, .int (0) 0, .int (0) 0, .int (3) 0, .ref 183, .bool true, .int (181) 0, .ref 184, .none, .none, .none, .ref 185, .int (2389) 0, .int (155) 0, .str ⟨⟨[47, 99, 108, 97, 105, 109, 47, 99, 117, 116, 46, 112, 121]⟩⟩ 2390]⟩, ⟨[]⟩⟩
noncomputable def o187v1 (P : Params) : Obj := ⟨.type "function", none, .func ⟨⟨⟨[108, 97, 119]⟩⟩, ⟨⟨[108, 97, 119]⟩⟩, argsOf (topSt 18), .stmts (bodyOf (topSt 18)), scopeOf (topSt 18), 3, [], .none, .none, .none, .str ⟨⟨[108, 97, 119, 95, 113, 117, 48, 48, 54, 56, 95, 48, 49]⟩⟩ 2360, none, .ref 186, .none, 0⟩, ⟨[]⟩⟩
noncomputable def hA (P : Params) : Heap := ⟨⟨[boot_o_0 P, boot_o_1 P, boot_o_2 P, boot_o_3 P, boot_o_4 P, boot_o_5 P, boot_o_6 P, boot_o_7 P, boot_o_8 P, boot_o_9 P, boot_o_10 P, o11v1 P, o12v1 P, o13v1 P, o14v1 P]⟩, {}⟩
noncomputable def h0 (P : Params) : Heap := ⟨⟨[boot_o_0 P, boot_o_1 P, boot_o_2 P, o3v1 P, boot_o_4 P, boot_o_5 P, boot_o_6 P, boot_o_7 P, boot_o_8 P, boot_o_9 P, boot_o_10 P, o11v1 P, o12v2 P, o13v1 P, o14v1 P, o15v1 P, o16v1 P, o17v1 P, o18v1 P, o19v1 P, o20v1 P, o21v1 P]⟩, {}⟩
noncomputable def h1 (P : Params) : Heap := ⟨⟨[boot_o_0 P, boot_o_1 P, boot_o_2 P, o3v2 P, boot_o_4 P, boot_o_5 P, boot_o_6 P, boot_o_7 P, boot_o_8 P, boot_o_9 P, boot_o_10 P, o11v1 P, o12v2 P, o13v1 P, o14v1 P, o15v1 P, o16v1 P, o17v1 P, o18v1 P, o19v1 P, o20v1 P, o21v1 P]⟩, {}⟩
noncomputable def h2 (P : Params) : Heap := ⟨⟨[boot_o_0 P, boot_o_1 P, boot_o_2 P, o3v3 P, boot_o_4 P, boot_o_5 P, boot_o_6 P, boot_o_7 P, boot_o_8 P, boot_o_9 P, boot_o_10 P, o11v1 P, o12v3 P, o13v1 P, o14v1 P, o15v1 P, o16v1 P, o17v1 P, o18v1 P, o19v1 P, o20v1 P, o21v1 P, o22v1 P, o23v1 P, o24v1 P, o25v1 P, o26v1 P, o27v1 P, o28v1 P, o29v1 P, o30v1 P, o31v1 P, o32v1 P, o33v1 P, o34v1 P, o35v1 P, o36v1 P, o37v1 P, o38v1 P, o39v1 P, o40v1 P, o41v1 P, o42v1 P, o43v1 P, o44v1 P, o45v1 P, o46v1 P, o47v1 P, o48v1 P, o49v1 P, o50v1 P, o51v1 P, o52v1 P, o53v1 P, o54v1 P, o55v1 P, o56v1 P, o57v1 P, o58v1 P, o59v1 P, o60v1 P, o61v1 P, o62v1 P, o63v1 P, o64v1 P, o65v1 P, o66v1 P, o67v1 P, o68v1 P, o69v1 P, o70v1 P, o71v1 P, o72v1 P, o73v1 P, o74v1 P, o75v1 P, o76v1 P, o77v1 P, o78v1 P, o79v1 P, o80v1 P, o81v1 P, o82v1 P, o83v1 P, o84v1 P, o85v1 P, o86v1 P, o87v1 P]⟩, {}⟩
noncomputable def h3 (P : Params) : Heap := ⟨⟨[boot_o_0 P, boot_o_1 P, boot_o_2 P, o3v4 P, boot_o_4 P, boot_o_5 P, boot_o_6 P, boot_o_7 P, boot_o_8 P, boot_o_9 P, boot_o_10 P, o11v1 P, o12v3 P, o13v1 P, o14v1 P, o15v1 P, o16v1 P, o17v1 P, o18v1 P, o19v1 P, o20v1 P, o21v1 P, o22v1 P, o23v1 P, o24v1 P, o25v1 P, o26v1 P, o27v1 P, o28v1 P, o29v1 P, o30v1 P, o31v1 P, o32v1 P, o33v1 P, o34v1 P, o35v1 P, o36v1 P, o37v1 P, o38v1 P, o39v1 P, o40v1 P, o41v1 P, o42v1 P, o43v1 P, o44v1 P, o45v1 P, o46v1 P, o47v1 P, o48v1 P, o49v1 P, o50v1 P, o51v1 P, o52v1 P, o53v1 P, o54v1 P, o55v1 P, o56v1 P, o57v1 P, o58v1 P, o59v1 P, o60v1 P, o61v1 P, o62v1 P, o63v1 P, o64v1 P, o65v1 P, o66v1 P, o67v1 P, o68v1 P, o69v1 P, o70v1 P, o71v1 P, o72v1 P, o73v1 P, o74v1 P, o75v1 P, o76v1 P, o77v1 P, o78v1 P, o79v1 P, o80v1 P, o81v1 P, o82v1 P, o83v1 P, o84v1 P, o85v1 P, o86v1 P, o87v1 P]⟩, {}⟩
noncomputable def h4 (P : Params) : Heap := ⟨⟨[boot_o_0 P, boot_o_1 P, boot_o_2 P, o3v5 P, boot_o_4 P, boot_o_5 P, boot_o_6 P, boot_o_7 P, boot_o_8 P, boot_o_9 P, boot_o_10 P, o11v1 P, o12v3 P, o13v1 P, o14v1 P, o15v1 P, o16v1 P, o17v1 P, o18v1 P, o19v1 P, o20v1 P, o21v1 P, o22v1 P, o23v1 P, o24v1 P, o25v1 P, o26v1 P, o27v1 P, o28v1 P, o29v1 P, o30v1 P, o31v1 P, o32v1 P, o33v1 P, o34v1 P, o35v1 P, o36v1 P, o37v1 P, o38v1 P, o39v1 P, o40v1 P, o41v1 P, o42v1 P, o43v1 P, o44v1 P, o45v1 P, o46v1 P, o47v1 P, o48v1 P, o49v1 P, o50v1 P, o51v1 P, o52v1 P, o53v1 P, o54v1 P, o55v1 P, o56v1 P, o57v1 P, o58v1 P, o59v1 P, o60v1 P, o61v1 P, o62v1 P, o63v1 P, o64v1 P, o65v1 P, o66v1 P, o67v1 P, o68v1 P, o69v1 P, o70v1 P, o71v1 P, o72v1 P, o73v1 P, o74v1 P, o75v1 P, o76v1 P, o77v1 P, o78v1 P, o79v1 P, o80v1 P, o81v1 P, o82v1 P, o83v1 P, o84v1 P, o85v1 P, o86v1 P, o87v1 P, o88v1 P, o89v1 P, o90v1 P, o91v1 P, o92v1 P, o93v1 P, o94v1 P, o95v1 P, o96v1 P, o97v1 P, o98v1 P]⟩, {}⟩
noncomputable def h5 (P : Params) : Heap := ⟨⟨[boot_o_0 P, boot_o_1 P, boot_o_2 P, o3v6 P, boot_o_4 P, boot_o_5 P, boot_o_6 P, boot_o_7 P, boot_o_8 P, boot_o_9 P, boot_o_10 P, o11v1 P, o12v4 P, o13v1 P, o14v1 P, o15v1 P, o16v1 P, o17v1 P, o18v1 P, o19v1 P, o20v1 P, o21v1 P, o22v1 P, o23v1 P, o24v1 P, o25v1 P, o26v1 P, o27v1 P, o28v1 P, o29v1 P, o30v1 P, o31v1 P, o32v1 P, o33v1 P, o34v1 P, o35v1 P, o36v1 P, o37v1 P, o38v1 P, o39v1 P, o40v1 P, o41v1 P, o42v1 P, o43v1 P, o44v1 P, o45v1 P, o46v1 P, o47v1 P, o48v1 P, o49v1 P, o50v1 P, o51v1 P, o52v1 P, o53v1 P, o54v1 P, o55v1 P, o56v1 P, o57v1 P, o58v1 P, o59v1 P, o60v1 P, o61v1 P, o62v1 P, o63v1 P, o64v1 P, o65v1 P, o66v1 P, o67v1 P, o68v1 P, o69v1 P, o70v1 P, o71v1 P, o72v1 P, o73v1 P, o74v1 P, o75v1 P, o76v1 P, o77v1 P, o78v1 P, o79v1 P, o80v1 P, o81v1 P, o82v1 P, o83v1 P, o84v1 P, o85v1 P, o86v1 P, o87v1 P, o88v1 P, o89v1 P, o90v1 P, o91v1 P, o92v1 P, o93v1 P, o94v1 P, o95v1 P, o96v1 P, o97v1 P, o98v1 P, o99v1 P, o100v1 P, o101v1 P, o102v1 P, o103v1 P, o104v1 P, o105v1 P]⟩, {}⟩
noncomputable def h6 (P : Params) : Heap := ⟨⟨[boot_o_0 P, boot_o_1 P, boot_o_2 P, o3v7 P, boot_o_4 P, boot_o_5 P, boot_o_6 P, boot_o_7 P, boot_o_8 P, boot_o_9 P, boot_o_10 P, o11v1 P, o12v4 P, o13v1 P, o14v1 P, o15v1 P, o16v1 P, o17v1 P, o18v1 P, o19v1 P, o20v1 P, o21v1 P, o22v1 P, o23v1 P, o24v1 P, o25v1 P, o26v1 P, o27v1 P, o28v1 P, o29v1 P, o30v1 P, o31v1 P, o32v1 P, o33v1 P, o34v1 P, o35v1 P, o36v1 P, o37v1 P, o38v1 P, o39v1 P, o40v1 P, o41v1 P, o42v1 P, o43v1 P, o44v1 P, o45v1 P, o46v1 P, o47v1 P, o48v1 P, o49v1 P, o50v1 P, o51v1 P, o52v1 P, o53v1 P, o54v1 P, o55v1 P, o56v1 P, o57v1 P, o58v1 P, o59v1 P, o60v1 P, o61v1 P, o62v1 P, o63v1 P, o64v1 P, o65v1 P, o66v1 P, o67v1 P, o68v1 P, o69v1 P, o70v1 P, o71v1 P, o72v1 P, o73v1 P, o74v1 P, o75v1 P, o76v1 P, o77v1 P, o78v1 P, o79v1 P, o80v1 P, o81v1 P, o82v1 P, o83v1 P, o84v1 P, o85v1 P, o86v1 P, o87v1 P, o88v1 P, o89v1 P, o90v1 P, o91v1 P, o92v1 P, o93v1 P, o94v1 P, o95v1 P, o96v1 P, o97v1 P, o98v1 P, o99v1 P, o100v1 P, o101v1 P, o102v1 P, o103v1 P, o104v1 P, o105v1 P, dictO 0, dictO 1, dictO 2, dictO 3, dictO 4, dictO 5, dictO 6, dictO 7, dictO 8, dictO 9, dictO 10, dictO 11, dictO 12, dictO 13, dictO 14, dictO 15, dictO 16, dictO 17, dictO 18, dictO 19, dictO 20, dictO 21, dictO 22, dictO 23, dictO 24, dictO 25, dictO 26, dictO 27, dictO 28, dictO 29, dictO 30, dictO 31, dictO 32, dictO 33, dictO 34, dictO 35, dictO 36, dictO 37, dictO 38]⟩, {}⟩
noncomputable def h7 (P : Params) : Heap := ⟨⟨[boot_o_0 P, boot_o_1 P, boot_o_2 P, o3v8 P, boot_o_4 P, boot_o_5 P, boot_o_6 P, boot_o_7 P, boot_o_8 P, boot_o_9 P, boot_o_10 P, o11v1 P, o12v5 P, o13v1 P, o14v1 P, o15v1 P, o16v1 P, o17v1 P, o18v1 P, o19v1 P, o20v1 P, o21v1 P, o22v1 P, o23v1 P, o24v1 P, o25v1 P, o26v1 P, o27v1 P, o28v1 P, o29v1 P, o30v1 P, o31v1 P, o32v1 P, o33v1 P, o34v1 P, o35v1 P, o36v1 P, o37v1 P, o38v1 P, o39v1 P, o40v1 P, o41v1 P, o42v1 P, o43v1 P, o44v1 P, o45v1 P, o46v1 P, o47v1 P, o48v1 P, o49v1 P, o50v1 P, o51v1 P, o52v1 P, o53v1 P, o54v1 P, o55v1 P, o56v1 P, o57v1 P, o58v1 P, o59v1 P, o60v1 P, o61v1 P, o62v1 P, o63v1 P, o64v1 P, o65v1 P, o66v1 P, o67v1 P, o68v1 P, o69v1 P, o70v1 P, o71v1 P, o72v1 P, o73v1 P, o74v1 P, o75v1 P, o76v1 P, o77v1 P, o78v1 P, o79v1 P, o80v1 P, o81v1 P, o82v1 P, o83v1 P, o84v1 P, o85v1 P, o86v1 P, o87v1 P, o88v1 P, o89v1 P, o90v1 P, o91v1 P, o92v1 P, o93v1 P, o94v1 P, o95v1 P, o96v1 P, o97v1 P, o98v1 P, o99v1 P, o100v1 P, o101v1 P, o102v1 P, o103v1 P, o104v1 P, o105v1 P, dictO 0, dictO 1, dictO 2, dictO 3, dictO 4, dictO 5, dictO 6, dictO 7, dictO 8, dictO 9, dictO 10, dictO 11, dictO 12, dictO 13, dictO 14, dictO 15, dictO 16, dictO 17, dictO 18, dictO 19, dictO 20, dictO 21, dictO 22, dictO 23, dictO 24, dictO 25, dictO 26, dictO 27, dictO 28, dictO 29, dictO 30, dictO 31, dictO 32, dictO 33, dictO 34, dictO 35, dictO 36, dictO 37, dictO 38, o145v1 P, o146v1 P, o147v1 P, o148v1 P, o149v1 P, o150v1 P, o151v1 P]⟩, {}⟩
noncomputable def h8 (P : Params) : Heap := ⟨⟨[boot_o_0 P, boot_o_1 P, boot_o_2 P, o3v9 P, boot_o_4 P, boot_o_5 P, boot_o_6 P, boot_o_7 P, boot_o_8 P, boot_o_9 P, boot_o_10 P, o11v1 P, o12v5 P, o13v1 P, o14v1 P, o15v1 P, o16v1 P, o17v1 P, o18v1 P, o19v1 P, o20v1 P, o21v1 P, o22v1 P, o23v1 P, o24v1 P, o25v1 P, o26v1 P, o27v1 P, o28v1 P, o29v1 P, o30v1 P, o31v1 P, o32v1 P, o33v1 P, o34v1 P, o35v1 P, o36v1 P, o37v1 P, o38v1 P, o39v1 P, o40v1 P, o41v1 P, o42v1 P, o43v1 P, o44v1 P, o45v1 P, o46v1 P, o47v1 P, o48v1 P, o49v1 P, o50v1 P, o51v1 P, o52v1 P, o53v1 P, o54v1 P, o55v1 P, o56v1 P, o57v1 P, o58v1 P, o59v1 P, o60v1 P, o61v1 P, o62v1 P, o63v1 P, o64v1 P, o65v1 P, o66v1 P, o67v1 P, o68v1 P, o69v1 P, o70v1 P, o71v1 P, o72v1 P, o73v1 P, o74v1 P, o75v1 P, o76v1 P, o77v1 P, o78v1 P, o79v1 P, o80v1 P, o81v1 P, o82v1 P, o83v1 P, o84v1 P, o85v1 P, o86v1 P, o87v1 P, o88v1 P, o89v1 P, o90v1 P, o91v1 P, o92v1 P, o93v1 P, o94v1 P, o95v1 P, o96v1 P, o97v1 P, o98v1 P, o99v1 P, o100v1 P, o101v1 P, o102v1 P, o103v1 P, o104v1 P, o105v1 P, dictO 0, dictO 1, dictO 2, dictO 3, dictO 4, dictO 5, dictO 6, dictO 7, dictO 8, dictO 9, dictO 10, dictO 11, dictO 12, dictO 13, dictO 14, dictO 15, dictO 16, dictO 17, dictO 18, dictO 19, dictO 20, dictO 21, dictO 22, dictO 23, dictO 24, dictO 25, dictO 26, dictO 27, dictO 28, dictO 29, dictO 30, dictO 31, dictO 32, dictO 33, dictO 34, dictO 35, dictO 36, dictO 37, dictO 38, o145v1 P, o146v1 P, o147v1 P, o148v1 P, o149v1 P, o150v1 P, o151v1 P]⟩, {}⟩
noncomputable def h9 (P : Params) : Heap := ⟨⟨[boot_o_0 P, boot_o_1 P, boot_o_2 P, o3v10 P, boot_o_4 P, boot_o_5 P, boot_o_6 P, boot_o_7 P, boot_o_8 P, boot_o_9 P, boot_o_10 P, o11v1 P, o12v5 P, o13v1 P, o14v1 P, o15v1 P, o16v1 P, o17v1 P, o18v1 P, o19v1 P, o20v1 P, o21v1 P, o22v1 P, o23v1 P, o24v1 P, o25v1 P, o26v1 P, o27v1 P, o28v1 P, o29v1 P, o30v1 P, o31v1 P, o32v1 P, o33v1 P, o34v1 P, o35v1 P, o36v1 P, o37v1 P, o38v1 P, o39v1 P, o40v1 P, o41v1 P, o42v1 P, o43v1 P, o44v1 P, o45v1 P, o46v1 P, o47v1 P, o48v1 P, o49v1 P, o50v1 P, o51v1 P, o52v1 P, o53v1 P, o54v1 P, o55v1 P, o56v1 P, o57v1 P, o58v1 P, o59v1 P, o60v1 P, o61v1 P, o62v1 P, o63v1 P, o64v1 P, o65v1 P, o66v1 P, o67v1 P, o68v1 P, o69v1 P, o70v1 P, o71v1 P, o72v1 P, o73v1 P, o74v1 P, o75v1 P, o76v1 P, o77v1 P, o78v1 P, o79v1 P, o80v1 P, o81v1 P, o82v1 P, o83v1 P, o84v1 P, o85v1 P, o86v1 P, o87v1 P, o88v1 P, o89v1 P, o90v1 P, o91v1 P, o92v1 P, o93v1 P, o94v1 P, o95v1 P, o96v1 P, o97v1 P, o98v1 P, o99v1 P, o100v1 P, o101v1 P, o102v1 P, o103v1 P, o104v1 P, o105v1 P, dictO 0, dictO 1, dictO 2, dictO 3, dictO 4, dictO 5, dictO 6, dictO 7, dictO 8, dictO 9, dictO 10, dictO 11, dictO 12, dictO 13, dictO 14, dictO 15, dictO 16, dictO 17, dictO 18, dictO 19, dictO 20, dictO 21, dictO 22, dictO 23, dictO 24, dictO 25, dictO 26, dictO 27, dictO 28, dictO 29, dictO 30, dictO 31, dictO 32, dictO 33, dictO 34, dictO 35, dictO 36, dictO 37, dictO 38, o145v1 P, o146v1 P, o147v1 P, o148v1 P, o149v1 P, o150v1 P, o151v1 P]⟩, {}⟩
noncomputable def h10 (P : Params) : Heap := ⟨⟨[boot_o_0 P, boot_o_1 P, boot_o_2 P, o3v11 P, boot_o_4 P, boot_o_5 P, boot_o_6 P, boot_o_7 P, boot_o_8 P, boot_o_9 P, boot_o_10 P, o11v1 P, o12v5 P, o13v1 P, o14v1 P, o15v1 P, o16v1 P, o17v1 P, o18v1 P, o19v1 P, o20v1 P, o21v1 P, o22v1 P, o23v1 P, o24v1 P, o25v1 P, o26v1 P, o27v1 P, o28v1 P, o29v1 P, o30v1 P, o31v1 P, o32v1 P, o33v1 P, o34v1 P, o35v1 P, o36v1 P, o37v1 P, o38v1 P, o39v1 P, o40v1 P, o41v1 P, o42v1 P, o43v1 P, o44v1 P, o45v1 P, o46v1 P, o47v1 P, o48v1 P, o49v1 P, o50v1 P, o51v1 P, o52v1 P, o53v1 P, o54v1 P, o55v1 P, o56v1 P, o57v1 P, o58v1 P, o59v1 P, o60v1 P, o61v1 P, o62v1 P, o63v1 P, o64v1 P, o65v1 P, o66v1 P, o67v1 P, o68v1 P, o69v1 P, o70v1 P, o71v1 P, o72v1 P, o73v1 P, o74v1 P, o75v1 P, o76v1 P, o77v1 P, o78v1 P, o79v1 P, o80v1 P, o81v1 P, o82v1 P, o83v1 P, o84v1 P, o85v1 P, o86v1 P, o87v1 P, o88v1 P, o89v1 P, o90v1 P, o91v1 P, o92v1 P, o93v1 P, o94v1 P, o95v1 P, o96v1 P, o97v1 P, o98v1 P, o99v1 P, o100v1 P, o101v1 P, o102v1 P, o103v1 P, o104v1 P, o105v1 P, dictO 0, dictO 1, dictO 2, dictO 3, dictO 4, dictO 5, dictO 6, dictO 7, dictO 8, dictO 9, dictO 10, dictO 11, dictO 12, dictO 13, dictO 14, dictO 15, dictO 16, dictO 17, dictO 18, dictO 19, dictO 20, dictO 21, dictO 22, dictO 23, dictO 24, dictO 25, dictO 26, dictO 27, dictO 28, dictO 29, dictO 30, dictO 31, dictO 32, dictO 33, dictO 34, dictO 35, dictO 36, dictO 37, dictO 38, o145v1 P, o146v1 P, o147v1 P, o148v1 P, o149v1 P, o150v1 P, o151v1 P]⟩, {}⟩
noncomputable def h11 (P : Params) : Heap := ⟨⟨[boot_o_0 P, boot_o_1 P, boot_o_2 P, o3v12 P, boot_o_4 P, boot_o_5 P, boot_o_6 P, boot_o_7 P, boot_o_8 P, boot_o_9 P, boot_o_10 P, o11v1 P, o12v5 P, o13v1 P, o14v1 P, o15v1 P, o16v1 P, o17v1 P, o18v1 P, o19v1 P, o20v1 P, o21v1 P, o22v1 P, o23v1 P, o24v1 P, o25v1 P, o26v1 P, o27v1 P, o28v1 P, o29v1 P, o30v1 P, o31v1 P, o32v1 P, o33v1 P, o34v1 P, o35v1 P, o36v1 P, o37v1 P, o38v1 P, o39v1 P, o40v1 P, o41v1 P, o42v1 P, o43v1 P, o44v1 P, o45v1 P, o46v1 P, o47v1 P, o48v1 P, o49v1 P, o50v1 P, o51v1 P, o52v1 P, o53v1 P, o54v1 P, o55v1 P, o56v1 P, o57v1 P, o58v1 P, o59v1 P, o60v1 P, o61v1 P, o62v1 P, o63v1 P, o64v1 P, o65v1 P, o66v1 P, o67v1 P, o68v1 P, o69v1 P, o70v1 P, o71v1 P, o72v1 P, o73v1 P, o74v1 P, o75v1 P, o76v1 P, o77v1 P, o78v1 P, o79v1 P, o80v1 P, o81v1 P, o82v1 P, o83v1 P, o84v1 P, o85v1 P, o86v1 P, o87v1 P, o88v1 P, o89v1 P, o90v1 P, o91v1 P, o92v1 P, o93v1 P, o94v1 P, o95v1 P, o96v1 P, o97v1 P, o98v1 P, o99v1 P, o100v1 P, o101v1 P, o102v1 P, o103v1 P, o104v1 P, o105v1 P, dictO 0, dictO 1, dictO 2, dictO 3, dictO 4, dictO 5, dictO 6, dictO 7, dictO 8, dictO 9, dictO 10, dictO 11, dictO 12, dictO 13, dictO 14, dictO 15, dictO 16, dictO 17, dictO 18, dictO 19, dictO 20, dictO 21, dictO 22, dictO 23, dictO 24, dictO 25, dictO 26, dictO 27, dictO 28, dictO 29, dictO 30, dictO 31, dictO 32, dictO 33, dictO 34, dictO 35, dictO 36, dictO 37, dictO 38, o145v1 P, o146v1 P, o147v1 P, o148v1 P, o149v1 P, o150v1 P, o151v1 P]⟩, {}⟩
noncomputable def h12 (P : Params) : Heap := ⟨⟨[boot_o_0 P, boot_o_1 P, boot_o_2 P, o3v13 P, boot_o_4 P, boot_o_5 P, boot_o_6 P, boot_o_7 P, boot_o_8 P, boot_o_9 P, boot_o_10 P, o11v1 P, o12v6 P, o13v1 P, o14v1 P, o15v1 P, o16v1 P, o17v1 P, o18v1 P, o19v1 P, o20v1 P, o21v1 P, o22v1 P, o23v1 P, o24v1 P, o25v1 P, o26v1 P, o27v1 P, o28v1 P, o29v1 P, o30v1 P, o31v1 P, o32v1 P, o33v1 P, o34v1 P, o35v1 P, o36v1 P, o37v1 P, o38v1 P, o39v1 P, o40v1 P, o41v1 P, o42v1 P, o43v1 P, o44v1 P, o45v1 P, o46v1 P, o47v1 P, o48v1 P, o49v1 P, o50v1 P, o51v1 P, o52v1 P, o53v1 P, o54v1 P, o55v1 P, o56v1 P, o57v1 P, o58v1 P, o59v1 P, o60v1 P, o61v1 P, o62v1 P, o63v1 P, o64v1 P, o65v1 P, o66v1 P, o67v1 P, o68v1 P, o69v1 P, o70v1 P, o71v1 P, o72v1 P, o73v1 P, o74v1 P, o75v1 P, o76v1 P, o77v1 P, o78v1 P, o79v1 P, o80v1 P, o81v1 P, o82v1 P, o83v1 P, o84v1 P, o85v1 P, o86v1 P, o87v1 P, o88v1 P, o89v1 P, o90v1 P, o91v1 P, o92v1 P, o93v1 P, o94v1 P, o95v1 P, o96v1 P, o97v1 P, o98v1 P, o99v1 P, o100v1 P, o101v1 P, o102v1 P, o103v1 P, o104v1 P, o105v1 P, dictO 0, dictO 1, dictO 2, dictO 3, dictO 4, dictO 5, dictO 6, dictO 7, dictO 8, dictO 9, dictO 10, dictO 11, dictO 12, dictO 13, dictO 14, dictO 15, dictO 16, dictO 17, dictO 18, dictO 19, dictO 20, dictO 21, dictO 22, dictO 23, dictO 24, dictO 25, dictO 26, dictO 27, dictO 28, dictO 29, dictO 30, dictO 31, dictO 32, dictO 33, dictO 34, dictO 35, dictO 36, dictO 37, dictO 38, o145v1 P, o146v1 P, o147v1 P, o148v1 P, o149v1 P, o150v1 P, o151v1 P, o152v1 P, o153v1 P, o154v1 P, o155v1 P, o156v1 P, o157v1 P, o158v1 P]⟩, {}⟩
noncomputable def h13 (P : Params) : Heap := ⟨⟨[boot_o_0 P, boot_o_1 P, boot_o_2 P, o3v14 P, boot_o_4 P, boot_o_5 P, boot_o_6 P, boot_o_7 P, boot_o_8 P, boot_o_9 P, boot_o_10 P, o11v1 P, o12v7 P, o13v1 P, o14v1 P, o15v1 P, o16v1 P, o17v1 P, o18v1 P, o19v1 P, o20v1 P, o21v1 P, o22v1 P, o23v1 P, o24v1 P, o25v1 P, o26v1 P, o27v1 P, o28v1 P, o29v1 P, o30v1 P, o31v1 P, o32v1 P, o33v1 P, o34v1 P, o35v1 P, o36v1 P, o37v1 P, o38v1 P, o39v1 P, o40v1 P, o41v1 P, o42v1 P, o43v1 P, o44v1 P, o45v1 P, o46v1 P, o47v1 P, o48v1 P, o49v1 P, o50v1 P, o51v1 P, o52v1 P, o53v1 P, o54v1 P, o55v1 P, o56v1 P, o57v1 P, o58v1 P, o59v1 P, o60v1 P, o61v1 P, o62v1 P, o63v1 P, o64v1 P, o65v1 P, o66v1 P, o67v1 P, o68v1 P, o69v1 P, o70v1 P, o71v1 P, o72v1 P, o73v1 P, o74v1 P, o75v1 P, o76v1 P, o77v1 P, o78v1 P, o79v1 P, o80v1 P, o81v1 P, o82v1 P, o83v1 P, o84v1 P, o85v1 P, o86v1 P, o87v1 P, o88v1 P, o89v1 P, o90v1 P, o91v1 P, o92v1 P, o93v1 P, o94v1 P, o95v1 P, o96v1 P, o97v1 P, o98v1 P, o99v1 P, o100v1 P, o101v1 P, o102v1 P, o103v1 P, o104v1 P, o105v1 P, dictO 0, dictO 1, dictO 2, dictO 3, dictO 4, dictO 5, dictO 6, dictO 7, dictO 8, dictO 9, dictO 10, dictO 11, dictO 12, dictO 13, dictO 14, dictO 15, dictO 16, dictO 17, dictO 18, dictO 19, dictO 20, dictO 21, dictO 22, dictO 23, dictO 24, dictO 25, dictO 26, dictO 27, dictO 28, dictO 29, dictO 30, dictO 31, dictO 32, dictO 33, dictO 34, dictO 35, dictO 36, dictO 37, dictO 38, o145v1 P, o146v1 P, o147v1 P, o148v1 P, o149v1 P, o150v1 P, o151v1 P, o152v1 P, o153v1 P, o154v1 P, o155v1 P, o156v1 P, o157v1 P, o158v1 P, o159v1 P, o160v1 P, o161v1 P, o162v1 P, o163v1 P, o164v1 P, o165v1 P]⟩, {}⟩
noncomputable def h14 (P : Params) : Heap := ⟨⟨[boot_o_0 P, boot_o_1 P, boot_o_2 P, o3v15 P, boot_o_4 P, boot_o_5 P, boot_o_6 P, boot_o_7 P, boot_o_8 P, boot_o_9 P, boot_o_10 P, o11v1 P, o12v7 P, o13v1 P, o14v1 P, o15v1 P, o16v1 P, o17v1 P, o18v1 P, o19v1 P, o20v1 P, o21v1 P, o22v1 P, o23v1 P, o24v1 P, o25v1 P, o26v1 P, o27v1 P, o28v1 P, o29v1 P, o30v1 P, o31v1 P, o32v1 P, o33v1 P, o34v1 P, o35v1 P, o36v1 P, o37v1 P, o38v1 P, o39v1 P, o40v1 P, o41v1 P, o42v1 P, o43v1 P, o44v1 P, o45v1 P, o46v1 P, o47v1 P, o48v1 P, o49v1 P, o50v1 P, o51v1 P, o52v1 P, o53v1 P, o54v1 P, o55v1 P, o56v1 P, o57v1 P, o58v1 P, o59v1 P, o60v1 P, o61v1 P, o62v1 P, o63v1 P, o64v1 P, o65v1 P, o66v1 P, o67v1 P, o68v1 P, o69v1 P, o70v1 P, o71v1 P, o72v1 P, o73v1 P, o74v1 P, o75v1 P, o76v1 P, o77v1 P, o78v1 P, o79v1 P, o80v1 P, o81v1 P, o82v1 P, o83v1 P, o84v1 P, o85v1 P, o86v1 P, o87v1 P, o88v1 P, o89v1 P, o90v1 P, o91v1 P, o92v1 P, o93v1 P, o94v1 P, o95v1 P, o96v1 P, o97v1 P, o98v1 P, o99v1 P, o100v1 P, o101v1 P, o102v1 P, o103v1 P, o104v1 P, o105v1 P, dictO 0, dictO 1, dictO 2, dictO 3, dictO 4, dictO 5, dictO 6, dictO 7, dictO 8, dictO 9, dictO 10, dictO 11, dictO 12, dictO 13, dictO 14, dictO 15, dictO 16, dictO 17, dictO 18, dictO 19, dictO 20, dictO 21, dictO 22, dictO 23, dictO 24, dictO 25, dictO 26, dictO 27, dictO 28, dictO 29, dictO 30, dictO 31, dictO 32, dictO 33, dictO 34, dictO 35, dictO 36, dictO 37, dictO 38, o145v1 P, o146v1 P, o147v1 P, o148v1 P, o149v1 P, o150v1 P, o151v1 P, o152v1 P, o153v1 P, o154v1 P, o155v1 P, o156v1 P, o157v1 P, o158v1 P, o159v1 P, o160v1 P, o161v1 P, o162v1 P, o163v1 P, o164v1 P, o165v1 P]⟩, {}⟩
noncomputable def h15 (P : Params) : Heap := ⟨⟨[boot_o_0 P, boot_o_1 P, boot_o_2 P, o3v16 P, boot_o_4 P, boot_o_5 P, boot_o_6 P, boot_o_7 P, boot_o_8 P, boot_o_9 P, boot_o_10 P, o11v1 P, o12v8 P, o13v1 P, o14v1 P, o15v1 P, o16v1 P, o17v1 P, o18v1 P, o19v1 P, o20v1 P, o21v1 P, o22v1 P, o23v1 P, o24v1 P, o25v1 P, o26v1 P, o27v1 P, o28v1 P, o29v1 P, o30v1 P, o31v1 P, o32v1 P, o33v1 P, o34v1 P, o35v1 P, o36v1 P, o37v1 P, o38v1 P, o39v1 P, o40v1 P, o41v1 P, o42v1 P, o43v1 P, o44v1 P, o45v1 P, o46v1 P, o47v1 P, o48v1 P, o49v1 P, o50v1 P, o51v1 P, o52v1 P, o53v1 P, o54v1 P, o55v1 P, o56v1 P, o57v1 P, o58v1 P, o59v1 P, o60v1 P, o61v1 P, o62v1 P, o63v1 P, o64v1 P, o65v1 P, o66v1 P, o67v1 P, o68v1 P, o69v1 P, o70v1 P, o71v1 P, o72v1 P, o73v1 P, o74v1 P, o75v1 P, o76v1 P, o77v1 P, o78v1 P, o79v1 P, o80v1 P, o81v1 P, o82v1 P, o83v1 P, o84v1 P, o85v1 P, o86v1 P, o87v1 P, o88v1 P, o89v1 P, o90v1 P, o91v1 P, o92v1 P, o93v1 P, o94v1 P, o95v1 P, o96v1 P, o97v1 P, o98v1 P, o99v1 P, o100v1 P, o101v1 P, o102v1 P, o103v1 P, o104v1 P, o105v1 P, dictO 0, dictO 1, dictO 2, dictO 3, dictO 4, dictO 5, dictO 6, dictO 7, dictO 8, dictO 9, dictO 10, dictO 11, dictO 12, dictO 13, dictO 14, dictO 15, dictO 16, dictO 17, dictO 18, dictO 19, dictO 20, dictO 21, dictO 22, dictO 23, dictO 24, dictO 25, dictO 26, dictO 27, dictO 28, dictO 29, dictO 30, dictO 31, dictO 32, dictO 33, dictO 34, dictO 35, dictO 36, dictO 37, dictO 38, o145v1 P, o146v1 P, o147v1 P, o148v1 P, o149v1 P, o150v1 P, o151v1 P, o152v1 P, o153v1 P, o154v1 P, o155v1 P, o156v1 P, o157v1 P, o158v1 P, o159v1 P, o160v1 P, o161v1 P, o162v1 P, o163v1 P, o164v1 P, o165v1 P, o166v1 P, o167v1 P, o168v1 P, o169v1 P, o170v1 P, o171v1 P, o172v1 P]⟩, {}⟩
noncomputable def h16 (P : Params) : Heap := ⟨⟨[boot_o_0 P, boot_o_1 P, boot_o_2 P, o3v17 P, boot_o_4 P, boot_o_5 P, boot_o_6 P, boot_o_7 P, boot_o_8 P, boot_o_9 P, boot_o_10 P, o11v1 P, o12v9 P, o13v1 P, o14v1 P, o15v1 P, o16v1 P, o17v1 P, o18v1 P, o19v1 P, o20v1 P, o21v1 P, o22v1 P, o23v1 P, o24v1 P, o25v1 P, o26v1 P, o27v1 P, o28v1 P, o29v1 P, o30v1 P, o31v1 P, o32v1 P, o33v1 P, o34v1 P, o35v1 P, o36v1 P, o37v1 P, o38v1 P, o39v1 P, o40v1 P, o41v1 P, o42v1 P, o43v1 P, o44v1 P, o45v1 P, o46v1 P, o47v1 P, o48v1 P, o49v1 P, o50v1 P, o51v1 P, o52v1 P, o53v1 P, o54v1 P, o55v1 P, o56v1 P, o57v1 P, o58v1 P, o59v1 P, o60v1 P, o61v1 P, o62v1 P, o63v1 P, o64v1 P, o65v1 P, o66v1 P, o67v1 P, o68v1 P, o69v1 P, o70v1 P, o71v1 P, o72v1 P, o73v1 P, o74v1 P, o75v1 P, o76v1 P, o77v1 P, o78v1 P, o79v1 P, o80v1 P, o81v1 P, o82v1 P, o83v1 P, o84v1 P, o85v1 P, o86v1 P, o87v1 P, o88v1 P, o89v1 P, o90v1 P, o91v1 P, o92v1 P, o93v1 P, o94v1 P, o95v1 P, o96v1 P, o97v1 P, o98v1 P, o99v1 P, o100v1 P, o101v1 P, o102v1 P, o103v1 P, o104v1 P, o105v1 P, dictO 0, dictO 1, dictO 2, dictO 3, dictO 4, dictO 5, dictO 6, dictO 7, dictO 8, dictO 9, dictO 10, dictO 11, dictO 12, dictO 13, dictO 14, dictO 15, dictO 16, dictO 17, dictO 18, dictO 19, dictO 20, dictO 21, dictO 22, dictO 23, dictO 24, dictO 25, dictO 26, dictO 27, dictO 28, dictO 29, dictO 30, dictO 31, dictO 32, dictO 33, dictO 34, dictO 35, dictO 36, dictO 37, dictO 38, o145v1 P, o146v1 P, o147v1 P, o148v1 P, o149v1 P, o150v1 P, o151v1 P, o152v1 P, o153v1 P, o154v1 P, o155v1 P, o156v1 P, o157v1 P, o158v1 P, o159v1 P, o160v1 P, o161v1 P, o162v1 P, o163v1 P, o164v1 P, o165v1 P, o166v1 P, o167v1 P, o168v1 P, o169v1 P, o170v1 P, o171v1 P, o172v1 P, o173v1 P, o174v1 P, o175v1 P, o176v1 P, o177v1 P]⟩, {}⟩
noncomputable def h17 (P : Params) : Heap := ⟨⟨[boot_o_0 P, boot_o_1 P, boot_o_2 P, o3v18 P, boot_o_4 P, boot_o_5 P, boot_o_6 P, boot_o_7 P, boot_o_8 P, boot_o_9 P, boot_o_10 P, o11v1 P, o12v10 P, o13v1 P, o14v1 P, o15v1 P, o16v1 P, o17v1 P, o18v1 P, o19v1 P, o20v1 P, o21v1 P, o22v1 P, o23v1 P, o24v1 P, o25v1 P, o26v1 P, o27v1 P, o28v1 P, o29v1 P, o30v1 P, o31v1 P, o32v1 P, o33v1 P, o34v1 P, o35v1 P, o36v1 P, o37v1 P, o38v1 P, o39v1 P, o40v1 P, o41v1 P, o42v1 P, o43v1 P, o44v1 P, o45v1 P, o46v1 P, o47v1 P, o48v1 P, o49v1 P, o50v1 P, o51v1 P, o52v1 P, o53v1 P, o54v1 P, o55v1 P, o56v1 P, o57v1 P, o58v1 P, o59v1 P, o60v1 P, o61v1 P, o62v1 P, o63v1 P, o64v1 P, o65v1 P, o66v1 P, o67v1 P, o68v1 P, o69v1 P, o70v1 P, o71v1 P, o72v1 P, o73v1 P, o74v1 P, o75v1 P, o76v1 P, o77v1 P, o78v1 P, o79v1 P, o80v1 P, o81v1 P, o82v1 P, o83v1 P, o84v1 P, o85v1 P, o86v1 P, o87v1 P, o88v1 P, o89v1 P, o90v1 P, o91v1 P, o92v1 P, o93v1 P, o94v1 P, o95v1 P, o96v1 P, o97v1 P, o98v1 P, o99v1 P, o100v1 P, o101v1 P, o102v1 P, o103v1 P, o104v1 P, o105v1 P, dictO 0, dictO 1, dictO 2, dictO 3, dictO 4, dictO 5, dictO 6, dictO 7, dictO 8, dictO 9, dictO 10, dictO 11, dictO 12, dictO 13, dictO 14, dictO 15, dictO 16, dictO 17, dictO 18, dictO 19, dictO 20, dictO 21, dictO 22, dictO 23, dictO 24, dictO 25, dictO 26, dictO 27, dictO 28, dictO 29, dictO 30, dictO 31, dictO 32, dictO 33, dictO 34, dictO 35, dictO 36, dictO 37, dictO 38, o145v1 P, o146v1 P, o147v1 P, o148v1 P, o149v1 P, o150v1 P, o151v1 P, o152v1 P, o153v1 P, o154v1 P, o155v1 P, o156v1 P, o157v1 P, o158v1 P, o159v1 P, o160v1 P, o161v1 P, o162v1 P, o163v1 P, o164v1 P, o165v1 P, o166v1 P, o167v1 P, o168v1 P, o169v1 P, o170v1 P, o171v1 P, o172v1 P, o173v1 P, o174v1 P, o175v1 P, o176v1 P, o177v1 P, o178v1 P, o179v1 P, o180v1 P, o181v1 P, o182v1 P]⟩, {}⟩
noncomputable def h18 (P : Params) : Heap := ⟨⟨[boot_o_0 P, boot_o_1 P, boot_o_2 P, o3v19 P, boot_o_4 P, boot_o_5 P, boot_o_6 P, boot_o_7 P, boot_o_8 P, boot_o_9 P, boot_o_10 P, o11v1 P, o12v11 P, o13v1 P, o14v1 P, o15v1 P, o16v1 P, o17v1 P, o18v1 P, o19v1 P, o20v1 P, o21v1 P, o22v1 P, o23v1 P, o24v1 P, o25v1 P, o26v1 P, o27v1 P, o28v1 P, o29v1 P, o30v1 P, o31v1 P, o32v1 P, o33v1 P, o34v1 P, o35v1 P, o36v1 P, o37v1 P, o38v1 P, o39v1 P, o40v1 P, o41v1 P, o42v1 P, o43v1 P, o44v1 P, o45v1 P, o46v1 P, o47v1 P, o48v1 P, o49v1 P, o50v1 P, o51v1 P, o52v1 P, o53v1 P, o54v1 P, o55v1 P, o56v1 P, o57v1 P, o58v1 P, o59v1 P, o60v1 P, o61v1 P, o62v1 P, o63v1 P, o64v1 P, o65v1 P, o66v1 P, o67v1 P, o68v1 P, o69v1 P, o70v1 P, o71v1 P, o72v1 P, o73v1 P, o74v1 P, o75v1 P, o76v1 P, o77v1 P, o78v1 P, o79v1 P, o80v1 P, o81v1 P, o82v1 P, o83v1 P, o84v1 P, o85v1 P, o86v1 P, o87v1 P, o88v1 P, o89v1 P, o90v1 P, o91v1 P, o92v1 P, o93v1 P, o94v1 P, o95v1 P, o96v1 P, o97v1 P, o98v1 P, o99v1 P, o100v1 P, o101v1 P, o102v1 P, o103v1 P, o104v1 P, o105v1 P, dictO 0, dictO 1, dictO 2, dictO 3, dictO 4, dictO 5, dictO 6, dictO 7, dictO 8, dictO 9, dictO 10, dictO 11, dictO 12, dictO 13, dictO 14, dictO 15, dictO 16, dictO 17, dictO 18, dictO 19, dictO 20, dictO 21, dictO 22, dictO 23, dictO 24, dictO 25, dictO 26, dictO 27, dictO 28, dictO 29, dictO 30, dictO 31, dictO 32, dictO 33, dictO 34, dictO 35, dictO 36, dictO 37, dictO 38, o145v1 P, o146v1 P, o147v1 P, o148v1 P, o149v1 P, o150v1 P, o151v1 P, o152v1 P, o153v1 P, o154v1 P, o155v1 P, o156v1 P, o157v1 P, o158v1 P, o159v1 P, o160v1 P, o161v1 P, o162v1 P, o163v1 P, o164v1 P, o165v1 P, o166v1 P, o167v1 P, o168v1 P, o169v1 P, o170v1 P, o171v1 P, o172v1 P, o173v1 P, o174v1 P, o175v1 P, o176v1 P, o177v1 P, o178v1 P, o179v1 P, o180v1 P, o181v1 P, o182v1 P, o183v1 P, o184v1 P, o185v1 P, o186v1 P, o187v1 P]⟩, {}⟩
noncomputable def h6a (P : Params) : Heap := ⟨⟨[boot_o_0 P, boot_o_1 P, boot_o_2 P, o3v6 P, boot_o_4 P, boot_o_5 P, boot_o_6 P, boot_o_7 P, boot_o_8 P, boot_o_9 P, boot_o_10 P, o11v1 P, o12v4 P, o13v1 P, o14v1 P, o15v1 P, o16v1 P, o17v1 P, o18v1 P, o19v1 P, o20v1 P, o21v1 P, o22v1 P, o23v1 P, o24v1 P, o25v1 P, o26v1 P, o27v1 P, o28v1 P, o29v1 P, o30v1 P, o31v1 P, o32v1 P, o33v1 P, o34v1 P, o35v1 P, o36v1 P, o37v1 P, o38v1 P, o39v1 P, o40v1 P, o41v1 P, o42v1 P, o43v1 P, o44v1 P, o45v1 P, o46v1 P, o47v1 P, o48v1 P, o49v1 P, o50v1 P, o51v1 P, o52v1 P, o53v1 P, o54v1 P, o55v1 P, o56v1 P, o57v1 P, o58v1 P, o59v1 P, o60v1 P, o61v1 P, o62v1 P, o63v1 P, o64v1 P, o65v1 P, o66v1 P, o67v1 P, o68v1 P, o69v1 P, o70v1 P, o71v1 P, o72v1 P, o73v1 P, o74v1 P, o75v1 P, o76v1 P, o77v1 P, o78v1 P, o79v1 P, o80v1 P, o81v1 P, o82v1 P, o83v1 P, o84v1 P, o85v1 P, o86v1 P, o87v1 P, o88v1 P, o89v1 P, o90v1 P, o91v1 P, o92v1 P, o93v1 P, o94v1 P, o95v1 P, o96v1 P, o97v1 P, o98v1 P, o99v1 P, o100v1 P, o101v1 P, o102v1 P, o103v1 P, o104v1 P, o105v1 P, dictO 0, dictO 1, dictO 2, dictO 3, dictO 4, dictO 5, dictO 6, dictO 7, dictO 8, dictO 9, dictO 10, dictO 11, dictO 12, dictO 13, dictO 14, dictO 15, dictO 16, dictO 17, dictO 18, dictO 19, dictO 20, dictO 21, dictO 22, dictO 23, dictO 24, dictO 25, dictO 26, dictO 27, dictO 28, dictO 29, dictO 30, dictO 31, dictO 32, dictO 33, dictO 34, dictO 35, dictO 36, dictO 37, dictO 38]⟩, {}⟩
noncomputable def Sh (h : Params → Heap) (tk : Nat) (w : World) (os : OsState) : Shared := ⟨h w.params, ⟨[]⟩, boot_drawn, tk, os⟩
noncomputable def env0 : Env := { scope := PySem.Challenge.pw_qu0068_01.main.scope, locals := mainNs, globals := mainNs, cells := [], code := .ref 13, frame := some 14 }
noncomputable def G0 : Ctx := ⟨.body (behindTheImports PySem.Challenge.pw_qu0068_01) env0, none, none, [(.builtin "claim.caller" {}, ⟨0, 0, 0, 0⟩)], none⟩
end Mine
end

/-! HeadS -/
section
namespace Mine
variable {prog : Program} {w : World}
noncomputable def onEnd {α : Type} (Q : α → Pos → Shared → Prop) (E : Value → Pos → Shared → Prop) (p : Pos) (s : Shared) : Except Value α → Prop
  | .ok a => Q a p s
  | .error e => E e p s
theorem wrun_both : ∀ (n : Nat),
    (∀ {α : Type} (Γ : Ctx) (p : Pos) (t : Sem α) (s : Shared) (r : Except Value α) (p' : Pos) (s' : Shared), wrun (model prog w).den prog w n Γ p t s = some (r, p', s') →
      ∀ (Q : α → Pos → Shared → Prop) (E : Value → Pos → Shared → Prop), onEnd Q E p' s' r → Sem.wp (model prog w) Γ t Q E p s) ∧
    (∀ (Γ : Ctx) (p : Pos) (c : Code) (s : Shared) (r : Result) (s' : Shared), Γ.code = c → wcode (model prog w).den prog w n Γ p c s = some (r, s') →
      ∀ R : Result → Shared → Prop, R r s' → wpCode (model prog w) Γ R p s)
  | 0 => ⟨fun Γ p t s r p' s' h => (nomatch (show (none : Option _) = some _ from h)), fun Γ p c s r s' _ h => (nomatch (show (none : Option _) = some _ from h))⟩
  | n + 1 => by
    obtain ⟨ih1, ih2⟩ := wrun_both n
    constructor
    · intro α Γ p t s r p' s' h Q E hq
      cases t <;> simp only [Sem.wp]
      case pure a =>
        have h : some (Except.ok a, p, s) = some (r, p', s') := h
        cases h; exact hq
      case raise e =>
        have h : some (Except.error e, p, s) = some (r, p', s') := h
        cases h; exact hq
      case rule t k => exact ih1 _ _ _ _ _ _ _ (show wrun _ prog w n Γ p (k ()) s = _ from h) _ _ hq
      case «at» q k => exact ih1 _ _ _ _ _ _ _ (show wrun _ prog w n Γ q (k ()) s = _ from h) _ _ hq
      case load a x k =>
        have h : (match s.heap.get? a with | some o => wrun (model prog w).den prog w n Γ p (k o) s | none => none) = some (r, p', s') := h
        cases e : s.heap.get? a with
        | none => rw [e] at h; cases h
        | some o => rw [e] at h; exact ⟨o, rfl, ih1 _ _ _ _ _ _ _ h _ _ hq⟩
      case update a x f k =>
        have h : (match (s.heap.get? a).isSome with | true => wrun (model prog w).den prog w n Γ p (k ()) ⟨s.heap.update a f, s.gens, s.drawn, s.toks, s.os⟩ | false => none) = some (r, p', s') := h
        cases e : (s.heap.get? a).isSome with
        | false => rw [e] at h; cases h
        | true => rw [e] at h; exact ⟨rfl, ih1 _ _ _ _ _ _ _ h _ _ hq⟩
      case loadIfAlive a k => exact ih1 _ _ _ _ _ _ _ (show wrun _ prog w n Γ p (k (s.heap.get? a)) s = _ from h) _ _ hq
      case point l k => exact ih1 _ _ _ _ _ _ _ (show wrun _ prog w n Γ p (k ()) s = _ from h) _ _ hq
      case alloc o k => exact ih1 _ _ _ _ _ _ _ (show wrun _ prog w n Γ p (k s.heap.objs.size) ⟨s.heap.push o, s.gens, s.drawn, s.toks, s.os⟩ = _ from h) _ _ hq
      case fresh k => exact ih1 _ _ _ _ _ _ _ (show wrun _ prog w n Γ p (k s.toks) ⟨s.heap, s.gens, s.drawn, s.toks + 1, s.os⟩ = _ from h) _ _ hq
      case ask k => exact ih1 _ _ _ _ _ _ _ (show wrun _ prog w n Γ p (k ⟨prog, w.params⟩) s = _ from h) _ _ hq
      case handled o k => exact ih1 _ _ _ _ _ _ _ (show wrun _ prog w n Γ p (k (if o then Γ.own else Γ.handled)) s = _ from h) _ _ hq
      case stack k => exact ih1 _ _ _ _ _ _ _ (show wrun _ prog w n Γ p (k ((Γ.code, p) :: Γ.below)) s = _ from h) _ _ hq
      case thread k => exact ih1 _ _ _ _ _ _ _ (show wrun _ prog w n Γ p (k 0) s = _ from h) _ _ hq
      case call c hd g l k =>
        have h : (match wcode (model prog w).den prog w n (Γ.enter c hd p) p c s with | some (r, s') => wrun (model prog w).den prog w n Γ p (k r) s' | none => none) = some (r, p', s') := h
        cases e : wcode (model prog w).den prog w n (Γ.enter c hd p) p c s with
        | none => rw [e] at h; cases h
        | some x =>
          obtain ⟨r₁, s₁⟩ := x
          rw [e] at h
          exact ih2 _ _ _ _ _ _ rfl e _ (ih1 _ _ _ _ _ _ _ h _ _ hq)
      all_goals exact (nomatch (show (none : Option _) = some _ from h))
    · intro Γ p c s r s' hc h R hR
      unfold wcode at h
      rw [wpCode_iff_wp, hc]
      cases e : wrun (model prog w).den prog w n Γ p ((model prog w).den c) s with
      | none => rw [e] at h; cases h
      | some x =>
        obtain ⟨r₁, p₁, s₁⟩ := x
        rw [e] at h
        cases r₁ with
        | error e' =>
          simp only [Option.some.injEq, Prod.mk.injEq] at h
          obtain ⟨rfl, rfl⟩ := h
          exact ih1 _ _ _ _ _ _ _ e _ _ hR
        | ok f =>
          cases f with
          | done f =>
            simp only [Option.some.injEq, Prod.mk.injEq] at h
            obtain ⟨rfl, rfl⟩ := h
            exact ih1 _ _ _ _ _ _ _ e _ _ hR
          | again c' =>
            simp only at h
            cases hq : c'.quiet with
            | false => rw [hq] at h; cases h
            | true =>
              rw [hq] at h
              exact ih1 _ _ _ _ _ _ _ e _ _ ⟨hq, ih2 _ _ _ _ _ _ rfl h _ hR⟩
theorem wrun_wp {n : Nat} {α : Type} {Γ : Ctx} {p p' : Pos} {t : Sem α} {s s' : Shared} {a : α} (h : wrun (denote table) prog w n Γ p t s = some (.ok a, p', s')) {Q : α → Pos → Shared → Prop} {E : Value → Pos → Shared → Prop} (hq : Q a p' s') :
    Sem.wp (model prog w) Γ t Q E p s := (wrun_both n).1 Γ p t s _ p' s' h Q E hq
theorem den_tw : PySem.W.Fast.tw11892475500146522536 PySem.W.Fast.tw14364793385576792824 = denote table := by
  rw [← PySem.W.Fast.te11892475500146522536, ← PySem.W.Fast.te14364793385576792824, table_eq_tree]
theorem execs_tw : PySem.W.Fast.tw12563942051412417395 = execs := PySem.W.Fast.te12563942051412417395.symm
end Mine
end

/-! HeadT -/
section
set_option maxRecDepth 100000
set_option maxHeartbeats 0
namespace Mine
noncomputable def tabP : Pos := match topSt 6 with
  | .Assign _ (.Dict _ _ p) _ => p
  | _ => ⟨0, 0, 0, 0⟩
noncomputable def tabN : Str × Pos × Pos := match topSt 6 with
  | .Assign [.Name x p] _ q => (x, p, q)
  | _ => (⟨⟨[]⟩⟩, ⟨0, 0, 0, 0⟩, ⟨0, 0, 0, 0⟩)
theorem tab_is : topSt 6 = .Assign [.Name tabN.1 tabN.2.1] (.Dict tabK tabV tabP) tabN.2.2 := by kernel_rfl
noncomputable def okPairs : List (Option Expr) → List Expr → Bool
  | [], [] => true
  | some (.Constant (.int _) _ _) :: ks, .Constant (.str _) _ _ :: vs => okPairs ks vs
  | _, _ => false
theorem tab_ok : okPairs tabK tabV = true := by kernel_rfl
theorem tab_shp {M : Model} {env : Env} {pos : Pos} : ∀ (ks : List (Option Expr)) (vs : List Expr), okPairs ks vs = true → Shp M (pairTrees ks vs env pos) (List.zipWith pairOf ks vs)
  | [], [], _ => trivial
  | k :: ks, v :: vs, h => by
    unfold okPairs at h
    split at h
    · rename_i e1 e2; cases e1
    · rename_i n kk p ks' x kk' p' vs' e1 e2
      cases e1; cases e2
      exact ⟨fun A E s Q hq => wpAny_Constant_int hq, fun A E s Q hq => wpAny_bind (wpAny_Constant_str (wpAny_bind (wpAny_standAt (wpAny_pure hq)))), tab_shp _ _ h⟩
    · cases h
  | [], _ :: _, h => by simp [okPairs] at h
  | _ :: _, [], h => by
    unfold okPairs at h
    split at h <;> simp_all
theorem ok_some : ∀ (ks : List (Option Expr)) (vs : List Expr), okPairs ks vs = true → ks.all (·.isSome) = true ∧ ks.length = vs.length
  | [], [], _ => ⟨rfl, rfl⟩
  | k :: ks, v :: vs, h => by
    unfold okPairs at h
    split at h
    · rename_i e1 e2; cases e1
    · rename_i n kk p ks' x kk' p' vs' e1 e2
      cases e1; cases e2
      obtain ⟨a, b⟩ := ok_some _ _ h
      exact ⟨by simpa using a, by simp [b]⟩
    · cases h
  | [], _ :: _, h => by simp [okPairs] at h
  | _ :: _, [], h => by
    unfold okPairs at h
    split at h <;> simp_all
noncomputable def incr : List (Int × Str) → Bool
  | a :: b :: r => decide (a.1 < b.1) && incr (b :: r)
  | _ => true
theorem incr_lt : ∀ {l : List (Int × Str)} {a : Int × Str}, incr (a :: l) = true → ∀ b ∈ l, a.1 < b.1
  | [], _, _, b, hb => by simp at hb
  | c :: l, a, h, b, hb => by
    simp only [incr, Bool.and_eq_true, decide_eq_true_eq] at h
    rcases List.mem_cons.mp hb with rfl | hb
    · exact h.1
    · exact Int.lt_trans h.1 (incr_lt h.2 b hb)
theorem incr_tail {l : List (Int × Str)} {a : Int × Str} (h : incr (a :: l) = true) : incr l = true := by
  cases l with
  | nil => rfl
  | cons b l => simp only [incr, Bool.and_eq_true] at h; exact h.2
theorem incr_nodup : ∀ {l : List (Int × Str)}, incr l = true → (l.map (·.1)).Nodup
  | [], _ => by simp
  | a :: l, h => by
    rw [List.map_cons, List.nodup_cons]
    refine ⟨fun hm => ?_, incr_nodup (incr_tail h)⟩
    obtain ⟨b, hb, e⟩ := List.mem_map.mp hm
    have := incr_lt h b hb
    lia
theorem tab_incr : incr tab = true := by kernel_rfl
theorem tab_len : tab.length = 650 := by kernel_rfl
theorem subsOf_len : ∀ (m t : Nat) (tab : List (Int × Str)), (subsOf m t tab).length = m
  | 0, _, _ => rfl
  | m + 1, t, tab => by simp [subsOf, subsOf_len m]
theorem tabObjs_len (m t : Nat) (tab : List (Int × Str)) : (tabObjs m t tab).length = m + 2 := by simp [tabObjs, subsOf_len]
theorem getD_list {α : Type} (d : α) (l : List α) : l = (List.range l.length).map fun i => l[i]?.getD d := by
  apply List.ext_getElem?
  intro i
  by_cases h : i < l.length
  · simp [h]
  · simp only [List.getElem?_map, List.getElem?_eq_none (Nat.not_lt.mp h)]
    rw [List.getElem?_eq_none (by simpa using h)]; rfl
theorem tabObjs_is : tabObjs 37 365 tab = (List.range 39).map dictO := by
  have := getD_list default (tabObjs 37 365 tab)
  rw [tabObjs_len] at this
  exact this
theorem h5_len (P : Params) : (h5 P).objs.toList.length = 106 := by kernel_rfl
theorem h6a_is (P : Params) : Hp ((h5 P).objs.toList ++ (List.range 39).map dictO) {} = h6a P := by kernel_rfl
noncomputable def AA : Around := ⟨none, 100000, none, none, 100000⟩
theorem G0_in : G0.In AA := ⟨rfl, by show frameCount G0.below + G0.code.weight ≤ 100000; decide +kernel, (fun l hl => nomatch hl), (fun l hl => nomatch hl), by show G0.units ≤ 100000; decide +kernel⟩
theorem st6s (w : World) (os : OsState) (Γ : Ctx) (p : Pos) : wrun (PySem.W.Fast.tw11892475500146522536 PySem.W.Fast.tw14364793385576792824) PySem.Challenge.pw_qu0068_01 w 60 Γ p (PySem.W.Fast.tw7998390705656384164 env0 tabN.1 (.ref 106)) (Sh h6a 2315 w os) = some (.ok (), p, Sh h6 2316 w os) := by kernel_rfl
theorem store_tw : PySem.W.Fast.tw7998390705656384164 = storeName := PySem.W.Fast.te7998390705656384164.symm
theorem wrun_any {w : World} {n : Nat} {α : Type} {t : Sem α} {s s' : Shared} {a : α} {A : Around} (h : ∀ Γ p, wrun (denote table) PySem.Challenge.pw_qu0068_01 w n Γ p t s = some (.ok a, p, s')) {Q : α → Shared → Prop} {E : Value → Shared → Prop} (hq : Q a s') :
    wpAny (model PySem.Challenge.pw_qu0068_01 w) A t Q E s := fun Γ p _ => wrun_wp (h Γ p) hq
theorem swaps6 : swapsWith (.Dict tabK tabV tabP) (some (.Name tabN.1 tabN.2.1)) tabN.2.2.line env0 = pure false := by kernel_rfl
theorem table_st {prog : Program} {w : World} {A : Around} {ks : List (Option Expr)} {vs : List Expr} {pos px q : Pos} {x : Str} {env : Env} {m : Nat} {l₁ : List Obj} {life : Life} {s : Shared} {Q : Flow → Shared → Prop} {E : Value → Shared → Prop} (ok : okPairs ks vs = true) (h1 : 17 * (m + 1) < (List.zipWith pairOf ks vs).length) (h2 : (List.zipWith pairOf ks vs).length ≤ 17 * (m + 1) + 15)
    (hi : incr (List.zipWith pairOf ks vs) = true) (hh : s.heap = Hp l₁ life) (hsz : (List.zipWith pairOf ks vs).length ≤ sizeLine) (hsys : sysModules ≤ l₁.length) (hw : swapsWith (.Dict ks vs pos) (some (.Name x px)) q.line env = pure false)
    (hQ : wpAny (model prog w) A (storeName env x (.ref l₁.length)) (fun _ => Q .next) E { s with heap := Hp (l₁ ++ tabObjs m s.toks (List.zipWith pairOf ks vs)) life, toks := s.toks + 51 * (m + 1) + 3 * ((List.zipWith pairOf ks vs).length - 17 * (m + 1)) }) :
    wpAny (model prog w) A (exec (.Assign [.Name x px] (.Dict ks vs pos) q) env) Q E s := by
  refine wpAny_Assign_Name ?_ hw
  obtain ⟨o1, o2⟩ := ok_some _ _ ok
  rw [arm_eval_Dict, zip_pairTrees ks vs env pos o1 o2]
  refine wpAny_bind (wpAny_standAt ?_)
  refine display_all (prog := prog) (w := w) m (l₁ := l₁) (life := life) (tab := List.zipWith pairOf ks vs) (tab_shp ks vs ok) h1 h2 hh (incr_nodup hi) hsz (fun i => ?_) hQ
  refine beq_eq_false_iff_ne.mpr fun e => ?_
  exact absurd e (Nat.ne_of_gt (Nat.lt_of_le_of_lt hsys (Nat.lt_of_lt_of_le (Nat.lt_succ_self _) (Nat.le_add_right _ _))))
theorem hh5 (w : World) (os : OsState) : (Sh h5 365 w os).heap = Hp (h5 w.params).objs.toList {} := by kernel_rfl
theorem tk5 (w : World) (os : OsState) : (Sh h5 365 w os).toks = 365 := by kernel_rfl
theorem st6_key (w : World) (os : OsState) : (⟨Hp ((h5 w.params).objs.toList ++ (List.range 39).map dictO) {}, ⟨[]⟩, boot_drawn, 2315, os⟩ : Shared) = Sh h6a 2315 w os := by kernel_rfl
theorem sh_parts (h : Params → Heap) (t : Nat) (w : World) (os : OsState) : Sh h t w os = ⟨h w.params, ⟨[]⟩, boot_drawn, t, os⟩ := rfl
theorem table_st2 {prog : Program} {w : World} {A : Around} {ks : List (Option Expr)} {vs : List Expr} {tb : List (Int × Str)} {pos px q : Pos} {x : Str} {env : Env} {m n : Nat} {l₁ : List Obj} {life : Life} {s s₁ : Shared} {Q : Flow → Shared → Prop} {E : Value → Shared → Prop} (ht : List.zipWith pairOf ks vs = tb) (hn : tb.length = n) (ok : okPairs ks vs = true) (h1 : 17 * (m + 1) < n) (h2 : n ≤ 17 * (m + 1) + 15)
    (hi : incr tb = true) (hh : s.heap = Hp l₁ life) (hsz : n ≤ sizeLine) {d : Nat} (hd : l₁.length = d) (hsys : sysModules ≤ d) (hw : swapsWith (.Dict ks vs pos) (some (.Name x px)) q.line env = pure false)
    (he : ({ s with heap := Hp (l₁ ++ tabObjs m s.toks tb) life, toks := s.toks + 51 * (m + 1) + 3 * (n - 17 * (m + 1)) } : Shared) = s₁)
    (hQ : wpAny (model prog w) A (storeName env x (.ref d)) (fun _ => Q .next) E s₁) :
    wpAny (model prog w) A (exec (.Assign [.Name x px] (.Dict ks vs pos) q) env) Q E s := by
  subst ht hn hd he
  exact table_st ok h1 h2 hi hh hsz hsys hw hQ
theorem st6_he (w : World) (os : OsState) : ({ Sh h5 365 w os with heap := Hp ((h5 w.params).objs.toList ++ tabObjs 37 (Sh h5 365 w os).toks tab) {}, toks := (Sh h5 365 w os).toks + 51 * (37 + 1) + 3 * (650 - 17 * (37 + 1)) } : Shared) = Sh h6a 2315 w os := by
  rw [tk5, tabObjs_is, ← st6_key, sh_parts]
theorem tab_zip : List.zipWith pairOf tabK tabV = tab := by unfold tab; rfl
theorem st6_run (w : World) (os : OsState) (Γ : Ctx) (p : Pos) : wrun (denote table) PySem.Challenge.pw_qu0068_01 w 60 Γ p (storeName env0 tabN.1 (.ref 106)) (Sh h6a 2315 w os) = some (.ok (), p, Sh h6 2316 w os) := by
  have := st6s w os Γ p
  rw [den_tw, store_tw] at this
  exact this
theorem st6_store (w : World) (os : OsState) {Q : Flow → Shared → Prop} {E : Value → Shared → Prop} (hq : Q .next (Sh h6 2316 w os)) : wpAny (model PySem.Challenge.pw_qu0068_01 w) AA (storeName env0 tabN.1 (.ref 106)) (fun _ => Q .next) E (Sh h6a 2315 w os) :=
  wrun_any (st6_run w os) hq
theorem exec_eq {M : Model} {A : Around} {st st' : Stmt} {env : Env} {Q : Flow → Shared → Prop} {E : Value → Shared → Prop} {s : Shared} (e : st = st') (h : wpAny M A (exec st' env) Q E s) : wpAny M A (exec st env) Q E s := by subst e; exact h
theorem st6 (w : World) (os : OsState) {Q : Flow → Shared → Prop} {E : Value → Shared → Prop} (hq : Q .next (Sh h6 2316 w os)) : wpAny (model PySem.Challenge.pw_qu0068_01 w) AA (exec (topSt 6) env0) Q E (Sh h5 365 w os) := by
  have c1 : 17 * (37 + 1) < 650 := by decide
  have c2 : 650 ≤ 17 * (37 + 1) + 15 := by decide
  have c3 : 650 ≤ sizeLine := by decide
  have c4 : sysModules ≤ 106 := by decide
  have := @table_st2 PySem.Challenge.pw_qu0068_01 w AA tabK tabV tab tabP tabN.2.1 tabN.2.2 tabN.1 env0 37 650 (h5 w.params).objs.toList {} (Sh h5 365 w os) (Sh h6a 2315 w os) Q E tab_zip tab_len tab_ok c1 c2 tab_incr (hh5 w os) c3 106 (h5_len w.params) c4 swaps6 (st6_he w os) (st6_store w os hq)
  refine @exec_eq (model PySem.Challenge.pw_qu0068_01 w) AA (topSt 6) _ env0 Q E (Sh h5 365 w os) tab_is ?_
  with_reducible exact this
end Mine
end

/-! Head2a -/
section
set_option maxRecDepth 100000
set_option maxHeartbeats 0
namespace Mine
theorem st0 (w : World) (os : OsState) (p : Pos) : wrun (PySem.W.Fast.tw11892475500146522536 PySem.W.Fast.tw14364793385576792824) PySem.Challenge.pw_qu0068_01 w 39 G0 p (PySem.W.Fast.tw12563942051412417395 [topSt 0] env0) (Sh hA 187 w os) = some (.ok .next, ⟨1, 0, 3, 12⟩, Sh h0 194 w os) := by kernel_rfl
theorem st1 (w : World) (os : OsState) (p : Pos) : wrun (PySem.W.Fast.tw11892475500146522536 PySem.W.Fast.tw14364793385576792824) PySem.Challenge.pw_qu0068_01 w 19 G0 p (PySem.W.Fast.tw12563942051412417395 [topSt 1] env0) (Sh h0 194 w os) = some (.ok .next, ⟨4, 0, 4, 8⟩, Sh h1 196 w os) := by kernel_rfl
theorem st2_false (w : World) (os : OsState) (p : Pos) : wrun (PySem.W.Fast.tw11892475500146522536 PySem.W.Fast.tw14364793385576792824) PySem.Challenge.pw_qu0068_01 (w.withFollow "special-get-raises" false) 502 G0 p (PySem.W.Fast.tw12563942051412417395 [topSt 2] env0) (Sh h1 196 (w.withFollow "special-get-raises" false) os) = some (.ok .next, ⟨5, 0, 60, 16⟩, Sh h2 296 (w.withFollow "special-get-raises" false) os) := by kernel_rfl
theorem st2_true (w : World) (os : OsState) (p : Pos) : wrun (PySem.W.Fast.tw11892475500146522536 PySem.W.Fast.tw14364793385576792824) PySem.Challenge.pw_qu0068_01 (w.withFollow "special-get-raises" true) 502 G0 p (PySem.W.Fast.tw12563942051412417395 [topSt 2] env0) (Sh h1 196 (w.withFollow "special-get-raises" true) os) = some (.ok .next, ⟨5, 0, 60, 16⟩, Sh h2 296 (w.withFollow "special-get-raises" true) os) := by kernel_rfl
theorem st2 (w : World) (os : OsState) (p : Pos) : wrun (PySem.W.Fast.tw11892475500146522536 PySem.W.Fast.tw14364793385576792824) PySem.Challenge.pw_qu0068_01 w 502 G0 p (PySem.W.Fast.tw12563942051412417395 [topSt 2] env0) (Sh h1 196 w os) = some (.ok .next, ⟨5, 0, 60, 16⟩, Sh h2 296 w os) := byRow2 "special-get-raises" (P := fun w => wrun (PySem.W.Fast.tw11892475500146522536 PySem.W.Fast.tw14364793385576792824) PySem.Challenge.pw_qu0068_01 w 502 G0 p (PySem.W.Fast.tw12563942051412417395 [topSt 2] env0) (Sh h1 196 w os) = some (.ok .next, ⟨5, 0, 60, 16⟩, Sh h2 296 w os)) (fun w => st2_false w os p) (fun w => st2_true w os p) w
theorem st3 (w : World) (os : OsState) (p : Pos) : wrun (PySem.W.Fast.tw11892475500146522536 PySem.W.Fast.tw14364793385576792824) PySem.Challenge.pw_qu0068_01 w 19 G0 p (PySem.W.Fast.tw12563942051412417395 [topSt 3] env0) (Sh h2 296 w os) = some (.ok .next, ⟨61, 0, 61, 8⟩, Sh h3 298 w os) := by kernel_rfl
theorem st4_false (w : World) (os : OsState) (p : Pos) : wrun (PySem.W.Fast.tw11892475500146522536 PySem.W.Fast.tw14364793385576792824) PySem.Challenge.pw_qu0068_01 (w.withFollow "special-get-raises" false) 1008 G0 p (PySem.W.Fast.tw12563942051412417395 [topSt 4] env0) (Sh h3 298 (w.withFollow "special-get-raises" false) os) = some (.ok .next, ⟨62, 0, 62, 6⟩, Sh h4 358 (w.withFollow "special-get-raises" false) os) := by kernel_rfl
theorem st4_true (w : World) (os : OsState) (p : Pos) : wrun (PySem.W.Fast.tw11892475500146522536 PySem.W.Fast.tw14364793385576792824) PySem.Challenge.pw_qu0068_01 (w.withFollow "special-get-raises" true) 1008 G0 p (PySem.W.Fast.tw12563942051412417395 [topSt 4] env0) (Sh h3 298 (w.withFollow "special-get-raises" true) os) = some (.ok .next, ⟨62, 0, 62, 6⟩, Sh h4 358 (w.withFollow "special-get-raises" true) os) := by kernel_rfl
theorem st4 (w : World) (os : OsState) (p : Pos) : wrun (PySem.W.Fast.tw11892475500146522536 PySem.W.Fast.tw14364793385576792824) PySem.Challenge.pw_qu0068_01 w 1008 G0 p (PySem.W.Fast.tw12563942051412417395 [topSt 4] env0) (Sh h3 298 w os) = some (.ok .next, ⟨62, 0, 62, 6⟩, Sh h4 358 w os) := byRow2 "special-get-raises" (P := fun w => wrun (PySem.W.Fast.tw11892475500146522536 PySem.W.Fast.tw14364793385576792824) PySem.Challenge.pw_qu0068_01 w 1008 G0 p (PySem.W.Fast.tw12563942051412417395 [topSt 4] env0) (Sh h3 298 w os) = some (.ok .next, ⟨62, 0, 62, 6⟩, Sh h4 358 w os)) (fun w => st4_false w os p) (fun w => st4_true w os p) w
theorem st5 (w : World) (os : OsState) (p : Pos) : wrun (PySem.W.Fast.tw11892475500146522536 PySem.W.Fast.tw14364793385576792824) PySem.Challenge.pw_qu0068_01 w 39 G0 p (PySem.W.Fast.tw12563942051412417395 [topSt 5] env0) (Sh h4 358 w os) = some (.ok .next, ⟨63, 0, 64, 30⟩, Sh h5 365 w os) := by kernel_rfl
end Mine
end

/-! Head2b -/
section
set_option maxRecDepth 100000
set_option maxHeartbeats 0
namespace Mine
theorem st7 (w : World) (os : OsState) (p : Pos) : wrun (PySem.W.Fast.tw11892475500146522536 PySem.W.Fast.tw14364793385576792824) PySem.Challenge.pw_qu0068_01 w 40 G0 p (PySem.W.Fast.tw12563942051412417395 [topSt 7] env0) (Sh h6 2316 w os) = some (.ok .next, ⟨66, 0, 70, 23⟩, Sh h7 2324 w os) := by kernel_rfl
theorem st8 (w : World) (os : OsState) (p : Pos) : wrun (PySem.W.Fast.tw11892475500146522536 PySem.W.Fast.tw14364793385576792824) PySem.Challenge.pw_qu0068_01 w 19 G0 p (PySem.W.Fast.tw12563942051412417395 [topSt 8] env0) (Sh h7 2324 w os) = some (.ok .next, ⟨71, 0, 71, 8⟩, Sh h8 2326 w os) := by kernel_rfl
theorem st9 (w : World) (os : OsState) (p : Pos) : wrun (PySem.W.Fast.tw11892475500146522536 PySem.W.Fast.tw14364793385576792824) PySem.Challenge.pw_qu0068_01 w 19 G0 p (PySem.W.Fast.tw12563942051412417395 [topSt 9] env0) (Sh h8 2326 w os) = some (.ok .next, ⟨72, 0, 72, 16⟩, Sh h9 2328 w os) := by kernel_rfl
theorem st10 (w : World) (os : OsState) (p : Pos) : wrun (PySem.W.Fast.tw11892475500146522536 PySem.W.Fast.tw14364793385576792824) PySem.Challenge.pw_qu0068_01 w 19 G0 p (PySem.W.Fast.tw12563942051412417395 [topSt 10] env0) (Sh h9 2328 w os) = some (.ok .next, ⟨73, 0, 73, 10⟩, Sh h10 2330 w os) := by kernel_rfl
theorem st11 (w : World) (os : OsState) (p : Pos) : wrun (PySem.W.Fast.tw11892475500146522536 PySem.W.Fast.tw14364793385576792824) PySem.Challenge.pw_qu0068_01 w 19 G0 p (PySem.W.Fast.tw12563942051412417395 [topSt 11] env0) (Sh h10 2330 w os) = some (.ok .next, ⟨74, 0, 74, 10⟩, Sh h11 2332 w os) := by kernel_rfl
theorem st12 (w : World) (os : OsState) (p : Pos) : wrun (PySem.W.Fast.tw11892475500146522536 PySem.W.Fast.tw14364793385576792824) PySem.Challenge.pw_qu0068_01 w 40 G0 p (PySem.W.Fast.tw12563942051412417395 [topSt 12] env0) (Sh h11 2332 w os) = some (.ok .next, ⟨75, 0, 80, 21⟩, Sh h12 2340 w os) := by kernel_rfl
theorem st13 (w : World) (os : OsState) (p : Pos) : wrun (PySem.W.Fast.tw11892475500146522536 PySem.W.Fast.tw14364793385576792824) PySem.Challenge.pw_qu0068_01 w 52 G0 p (PySem.W.Fast.tw12563942051412417395 [topSt 13] env0) (Sh h12 2340 w os) = some (.ok .next, ⟨81, 0, 118, 17⟩, Sh h13 2360 w os) := by kernel_rfl
theorem st14 (w : World) (os : OsState) (p : Pos) : wrun (PySem.W.Fast.tw11892475500146522536 PySem.W.Fast.tw14364793385576792824) PySem.Challenge.pw_qu0068_01 w 19 G0 p (PySem.W.Fast.tw12563942051412417395 [topSt 14] env0) (Sh h13 2360 w os) = some (.ok .next, ⟨119, 0, 119, 8⟩, Sh h14 2362 w os) := by kernel_rfl
theorem st15 (w : World) (os : OsState) (p : Pos) : wrun (PySem.W.Fast.tw11892475500146522536 PySem.W.Fast.tw14364793385576792824) PySem.Challenge.pw_qu0068_01 w 44 G0 p (PySem.W.Fast.tw12563942051412417395 [topSt 15] env0) (Sh h14 2362 w os) = some (.ok .next, ⟨120, 0, 127, 18⟩, Sh h15 2374 w os) := by kernel_rfl
theorem st16 (w : World) (os : OsState) (p : Pos) : wrun (PySem.W.Fast.tw11892475500146522536 PySem.W.Fast.tw14364793385576792824) PySem.Challenge.pw_qu0068_01 w 36 G0 p (PySem.W.Fast.tw12563942051412417395 [topSt 16] env0) (Sh h15 2374 w os) = some (.ok .next, ⟨128, 0, 139, 18⟩, Sh h16 2380 w os) := by kernel_rfl
theorem st17 (w : World) (os : OsState) (p : Pos) : wrun (PySem.W.Fast.tw11892475500146522536 PySem.W.Fast.tw14364793385576792824) PySem.Challenge.pw_qu0068_01 w 36 G0 p (PySem.W.Fast.tw12563942051412417395 [topSt 17] env0) (Sh h16 2380 w os) = some (.ok .next, ⟨140, 0, 154, 116⟩, Sh h17 2386 w os) := by kernel_rfl
theorem st18 (w : World) (os : OsState) (p : Pos) : wrun (PySem.W.Fast.tw11892475500146522536 PySem.W.Fast.tw14364793385576792824) PySem.Challenge.pw_qu0068_01 w 36 G0 p (PySem.W.Fast.tw12563942051412417395 [topSt 18] env0) (Sh h17 2386 w os) = some (.ok .next, ⟨155, 0, 186, 15⟩, Sh h18 2392 w os) := by kernel_rfl
end Mine
end

/-! HeadU -/
section
set_option maxRecDepth 100000
set_option maxHeartbeats 0
namespace Mine
noncomputable abbrev pw : Program := PySem.Challenge.pw_qu0068_01
theorem body_step {prog : Program} {w : World} {Γ : Ctx} {env : Env} {st : Stmt} {rest : List Stmt} {Q : Flow → Pos → Shared → Prop} {E : Value → Pos → Shared → Prop} {p pos : Pos} {s s' : Shared} {n : Nat}
    (h : wrun (denote table) prog w n Γ p (execs [st] env) s = some (.ok .next, pos, s')) (k : ∀ p, Sem.wp (model prog w) Γ (execs rest env) Q E p s') : Sem.wp (model prog w) Γ (execs (st :: rest) env) Q E p s := by
  have h1 : Sem.wp (model prog w) Γ (execs [st] env) (fun f _ s'' => f = .next ∧ s'' = s') E p s := wrun_wp h ⟨rfl, rfl⟩
  rw [execs_cons, Sem.wp_bind'] at h1 ⊢
  refine Sem.wp_mono _ _ _ (fun f p' s'' h' => ?_) (fun _ _ _ e => e) p s h1
  cases f with
  | next => simp only [execs_nil, Sem.wp_pure'] at h'; obtain ⟨_, rfl⟩ := h'; exact k p'
  | cont => simp only [Sem.wp_pure'] at h'; obtain ⟨e, _⟩ := h'; cases e
  | brk => simp only [Sem.wp_pure'] at h'; obtain ⟨e, _⟩ := h'; cases e
  | ret v => simp only [Sem.wp_pure'] at h'; obtain ⟨e, _⟩ := h'; cases e
theorem body_any {prog : Program} {w : World} {A : Around} {Γ : Ctx} {env : Env} {st : Stmt} {rest : List Stmt} {Q : Flow → Pos → Shared → Prop} {E : Value → Pos → Shared → Prop} {p : Pos} {s s' : Shared} (hΓ : Γ.In A)
    (h : wpAny (model prog w) A (exec st env) (fun f s'' => f = .next ∧ s'' = s') (fun _ _ => False) s) (k : ∀ p, Sem.wp (model prog w) Γ (execs rest env) Q E p s') : Sem.wp (model prog w) Γ (execs (st :: rest) env) Q E p s := by
  rw [execs_cons, Sem.wp_bind']
  refine Sem.wp_mono _ _ _ (fun f p' s'' h' => ?_) (fun _ _ _ e => e.elim) p s (h Γ p hΓ)
  obtain ⟨rfl, rfl⟩ := h'
  exact k p'
noncomputable def tops : List Stmt := (List.range 19).map topSt
theorem body_is : behindTheImports pw = tops := by kernel_rfl
theorem tops_is : tops = [topSt 0, topSt 1, topSt 2, topSt 3, topSt 4, topSt 5, topSt 6, topSt 7, topSt 8, topSt 9, topSt 10, topSt 11, topSt 12, topSt 13, topSt 14, topSt 15, topSt 16, topSt 17, topSt 18] := rfl
theorem tt0 (w : World) (os : OsState) (p : Pos) : wrun (denote table) pw w 39 G0 p (execs [topSt 0] env0) (Sh hA 187 w os) = some (.ok .next, ⟨1, 0, 3, 12⟩, Sh h0 194 w os) := by
  have h := st0 w os p
  rw [den_tw, execs_tw] at h; with_reducible exact h
theorem tt1 (w : World) (os : OsState) (p : Pos) : wrun (denote table) pw w 19 G0 p (execs [topSt 1] env0) (Sh h0 194 w os) = some (.ok .next, ⟨4, 0, 4, 8⟩, Sh h1 196 w os) := by
  have h := st1 w os p
  rw [den_tw, execs_tw] at h; with_reducible exact h
theorem tt2 (w : World) (os : OsState) (p : Pos) : wrun (denote table) pw w 502 G0 p (execs [topSt 2] env0) (Sh h1 196 w os) = some (.ok .next, ⟨5, 0, 60, 16⟩, Sh h2 296 w os) := by
  have h := st2 w os p
  rw [den_tw, execs_tw] at h; with_reducible exact h
theorem tt3 (w : World) (os : OsState) (p : Pos) : wrun (denote table) pw w 19 G0 p (execs [topSt 3] env0) (Sh h2 296 w os) = some (.ok .next, ⟨61, 0, 61, 8⟩, Sh h3 298 w os) := by
  have h := st3 w os p
  rw [den_tw, execs_tw] at h; with_reducible exact h
theorem tt4 (w : World) (os : OsState) (p : Pos) : wrun (denote table) pw w 1008 G0 p (execs [topSt 4] env0) (Sh h3 298 w os) = some (.ok .next, ⟨62, 0, 62, 6⟩, Sh h4 358 w os) := by
  have h := st4 w os p
  rw [den_tw, execs_tw] at h; with_reducible exact h
theorem tt5 (w : World) (os : OsState) (p : Pos) : wrun (denote table) pw w 39 G0 p (execs [topSt 5] env0) (Sh h4 358 w os) = some (.ok .next, ⟨63, 0, 64, 30⟩, Sh h5 365 w os) := by
  have h := st5 w os p
  rw [den_tw, execs_tw] at h; with_reducible exact h
theorem tt7 (w : World) (os : OsState) (p : Pos) : wrun (denote table) pw w 40 G0 p (execs [topSt 7] env0) (Sh h6 2316 w os) = some (.ok .next, ⟨66, 0, 70, 23⟩, Sh h7 2324 w os) := by
  have h := st7 w os p
  rw [den_tw, execs_tw] at h; with_reducible exact h
theorem tt8 (w : World) (os : OsState) (p : Pos) : wrun (denote table) pw w 19 G0 p (execs [topSt 8] env0) (Sh h7 2324 w os) = some (.ok .next, ⟨71, 0, 71, 8⟩, Sh h8 2326 w os) := by
  have h := st8 w os p
  rw [den_tw, execs_tw] at h; with_reducible exact h
theorem tt9 (w : World) (os : OsState) (p : Pos) : wrun (denote table) pw w 19 G0 p (execs [topSt 9] env0) (Sh h8 2326 w os) = some (.ok .next, ⟨72, 0, 72, 16⟩, Sh h9 2328 w os) := by
  have h := st9 w os p
  rw [den_tw, execs_tw] at h; with_reducible exact h
theorem tt10 (w : World) (os : OsState) (p : Pos) : wrun (denote table) pw w 19 G0 p (execs [topSt 10] env0) (Sh h9 2328 w os) = some (.ok .next, ⟨73, 0, 73, 10⟩, Sh h10 2330 w os) := by
  have h := st10 w os p
  rw [den_tw, execs_tw] at h; with_reducible exact h
theorem tt11 (w : World) (os : OsState) (p : Pos) : wrun (denote table) pw w 19 G0 p (execs [topSt 11] env0) (Sh h10 2330 w os) = some (.ok .next, ⟨74, 0, 74, 10⟩, Sh h11 2332 w os) := by
  have h := st11 w os p
  rw [den_tw, execs_tw] at h; with_reducible exact h
theorem tt12 (w : World) (os : OsState) (p : Pos) : wrun (denote table) pw w 40 G0 p (execs [topSt 12] env0) (Sh h11 2332 w os) = some (.ok .next, ⟨75, 0, 80, 21⟩, Sh h12 2340 w os) := by
  have h := st12 w os p
  rw [den_tw, execs_tw] at h; with_reducible exact h
theorem tt13 (w : World) (os : OsState) (p : Pos) : wrun (denote table) pw w 52 G0 p (execs [topSt 13] env0) (Sh h12 2340 w os) = some (.ok .next, ⟨81, 0, 118, 17⟩, Sh h13 2360 w os) := by
  have h := st13 w os p
  rw [den_tw, execs_tw] at h; with_reducible exact h
theorem tt14 (w : World) (os : OsState) (p : Pos) : wrun (denote table) pw w 19 G0 p (execs [topSt 14] env0) (Sh h13 2360 w os) = some (.ok .next, ⟨119, 0, 119, 8⟩, Sh h14 2362 w os) := by
  have h := st14 w os p
  rw [den_tw, execs_tw] at h; with_reducible exact h
theorem tt15 (w : World) (os : OsState) (p : Pos) : wrun (denote table) pw w 44 G0 p (execs [topSt 15] env0) (Sh h14 2362 w os) = some (.ok .next, ⟨120, 0, 127, 18⟩, Sh h15 2374 w os) := by
  have h := st15 w os p
  rw [den_tw, execs_tw] at h; with_reducible exact h
theorem tt16 (w : World) (os : OsState) (p : Pos) : wrun (denote table) pw w 36 G0 p (execs [topSt 16] env0) (Sh h15 2374 w os) = some (.ok .next, ⟨128, 0, 139, 18⟩, Sh h16 2380 w os) := by
  have h := st16 w os p
  rw [den_tw, execs_tw] at h; with_reducible exact h
theorem tt17 (w : World) (os : OsState) (p : Pos) : wrun (denote table) pw w 36 G0 p (execs [topSt 17] env0) (Sh h16 2380 w os) = some (.ok .next, ⟨140, 0, 154, 116⟩, Sh h17 2386 w os) := by
  have h := st17 w os p
  rw [den_tw, execs_tw] at h; with_reducible exact h
theorem tt18 (w : World) (os : OsState) (p : Pos) : wrun (denote table) pw w 36 G0 p (execs [topSt 18] env0) (Sh h17 2386 w os) = some (.ok .next, ⟨155, 0, 186, 15⟩, Sh h18 2392 w os) := by
  have h := st18 w os p
  rw [den_tw, execs_tw] at h; with_reducible exact h
theorem body_wp (w : World) (os : OsState) {E : Value → Pos → Shared → Prop} (p : Pos) : Sem.wp (model pw w) G0 (execs tops env0) (fun f _ s' => f = .next ∧ s' = Sh h18 2392 w os) E p (Sh hA 187 w os) := by
  rw [tops_is]
  with_reducible refine body_step (tt0 w os p) fun p => ?_
  with_reducible refine body_step (tt1 w os p) fun p => ?_
  with_reducible refine body_step (tt2 w os p) fun p => ?_
  with_reducible refine body_step (tt3 w os p) fun p => ?_
  with_reducible refine body_step (tt4 w os p) fun p => ?_
  with_reducible refine body_step (tt5 w os p) fun p => ?_
  with_reducible refine body_any G0_in (st6 w os (Q := fun f s'' => f = .next ∧ s'' = Sh h6 2316 w os) ⟨rfl, rfl⟩) fun p => ?_
  with_reducible refine body_step (tt7 w os p) fun p => ?_
  with_reducible refine body_step (tt8 w os p) fun p => ?_
  with_reducible refine body_step (tt9 w os p) fun p => ?_
  with_reducible refine body_step (tt10 w os p) fun p => ?_
  with_reducible refine body_step (tt11 w os p) fun p => ?_
  with_reducible refine body_step (tt12 w os p) fun p => ?_
  with_reducible refine body_step (tt13 w os p) fun p => ?_
  with_reducible refine body_step (tt14 w os p) fun p => ?_
  with_reducible refine body_step (tt15 w os p) fun p => ?_
  with_reducible refine body_step (tt16 w os p) fun p => ?_
  with_reducible refine body_step (tt17 w os p) fun p => ?_
  with_reducible refine body_step (tt18 w os p) fun p => ?_
  rw [execs_nil, Sem.wp_pure']
  exact ⟨rfl, rfl⟩
end Mine
end

/-! HeadV -/
section
set_option maxRecDepth 100000
set_option maxHeartbeats 0
namespace Mine
noncomputable def Gc : Ctx := ⟨.builtin "claim.caller" {}, none, none, [], none⟩
theorem pre_tw (w : World) (os : OsState) : wrun (PySem.W.Fast.tw11892475500146522536 PySem.W.Fast.tw14364793385576792824) PySem.Challenge.pw_qu0068_01 w 60 Gc default (Sem.bind (PySem.W.Fast.tw17154629097778926822 PySem.Challenge.pw_qu0068_01.main PySem.Challenge.pw_qu0068_01.main.file none) fun c => Sem.bind (PySem.W.Fast.tw12822647523644345616 c mainNs mainNs) fun f => .pure (c, f)) (Sh boot_heap boot_toks w os) = some (.ok (.ref 13, 14), default, Sh hA 187 w os) := by kernel_rfl
theorem mc_tw : @PySem.W.Fast.tw17154629097778926822 = @moduleCode := PySem.W.Fast.te17154629097778926822.symm
theorem nf_tw : @PySem.W.Fast.tw12822647523644345616 = @newBodyFrame := PySem.W.Fast.te12822647523644345616.symm
theorem pre_run (w : World) (os : OsState) : wrun (denote table) pw w 60 Gc default (Sem.bind (moduleCode pw.main pw.main.file none) fun c => Sem.bind (newBodyFrame c mainNs mainNs) fun f => .pure (c, f)) (Sh boot_heap boot_toks w os) = some (.ok (.ref 13, 14), default, Sh hA 187 w os) := by
  have h := pre_tw w os
  rw [den_tw, mc_tw, nf_tw] at h
  with_reducible exact h
theorem block_tw (w : World) (os : OsState) : wrun (PySem.W.Fast.tw11892475500146522536 PySem.W.Fast.tw14364793385576792824) PySem.Challenge.pw_qu0068_01 w 20 G0 ⟨0, 0, 0, 0⟩ (PySem.W.Fast.tw1066825118222455980 tops env0) (Sh hA 187 w os) = some (.ok (), ⟨0, 0, 0, 0⟩, Sh hA 187 w os) := by kernel_rfl
theorem bs_tw : PySem.W.Fast.tw1066825118222455980 = blockStart := PySem.W.Fast.te1066825118222455980.symm
theorem block_run (w : World) (os : OsState) : wrun (denote table) pw w 20 G0 ⟨0, 0, 0, 0⟩ (blockStart tops env0) (Sh hA 187 w os) = some (.ok (), ⟨0, 0, 0, 0⟩, Sh hA 187 w os) := by
  have h := block_tw w os
  rw [den_tw, bs_tw] at h
  with_reducible exact h
theorem den_body {M : Model} {Γ : Ctx} {tb : String → Option Builtin} (b : List Stmt) (env : Env) {Q : Fin → Pos → Shared → Prop} {E : Value → Pos → Shared → Prop} {p p₁ : Pos} {s s₁ : Shared} (h1 : ∀ {E}, Sem.wp M Γ (blockStart b env) (fun _ p' s' => p' = p₁ ∧ s' = s₁) E p s)
    (h2 : ∀ {E}, Sem.wp M Γ (execs b env) (fun f p' s' => Q (.done f) p' s') E p₁ s₁) : Sem.wp M Γ (denote tb (.body b env)) Q E p s := by
  show Sem.wp M Γ ((blockStart b env).bind (fun _ => ((execs b env).onRaise (leaving env)).bind fun f => (Sem.pure (Fin.done f) : Sem Fin))) Q E p s
  rw [Sem.wp_bind]
  refine Sem.wp_mono _ _ _ (fun _ p' s' h' => ?_) (fun _ _ _ e => e) p s h1
  obtain ⟨rfl, rfl⟩ := h'
  rw [Sem.wp_bind, Sem.wp_onRaise]
  refine Sem.wp_mono _ _ _ (fun f p'' s'' h'' => ?_) (fun _ _ _ e => e) _ _ h2
  simp only [Sem.wp_pure]
  exact h''
theorem code_body (w : World) (os : OsState) {R : Result → Shared → Prop} (hR : R (.ok .next) (Sh h18 2392 w os)) : wpCode (model pw w) G0 R ⟨0, 0, 0, 0⟩ (Sh hA 187 w os) := by
  rw [wpCode_iff_wp]
  have hc : G0.code = .body tops env0 := by show Code.body (behindTheImports pw) env0 = _; rw [body_is]
  rw [hc]
  refine den_body (tb := table) tops env0 (p₁ := ⟨0, 0, 0, 0⟩) (s₁ := Sh hA 187 w os) (wrun_wp (block_run w os) ⟨rfl, rfl⟩) ?_
  intro E
  refine Sem.wp_mono _ _ _ (fun f p' s' h' => ?_) (fun _ _ _ e => e) _ _ (body_wp w os _)
  obtain ⟨rfl, rfl⟩ := h'
  exact hR
theorem enter_is : Gc.enter (.body (behindTheImports pw) env0) none ⟨0, 0, 0, 0⟩ = G0 := rfl
theorem env_is : ({ scope := pw.main.scope, locals := mainNs, globals := mainNs, cells := [], code := .ref 13, frame := some 14 } : Env) = env0 := rfl
/-- the tree of the top, over any text -/
theorem stub_any {M : Model} {Γ : Ctx} {p : Program} {R : Result → Shared → Prop} {E : Value → Pos → Shared → Prop} {s s₁ : Shared} {p₀ p₁ : Pos} {c : Value} {f : Addr}
    (h1 : ∀ {E}, Sem.wp M Γ (Sem.bind (moduleCode p.main p.main.file none) fun c => Sem.bind (newBodyFrame c mainNs mainNs) fun f => .pure (c, f)) (fun cf p' s' => cf = (c, f) ∧ p' = p₁ ∧ s' = s₁) E p₀ s)
    (h2 : wpCode M (Γ.enter (.body (behindTheImports p) { scope := p.main.scope, locals := mainNs, globals := mainNs, cells := [], code := c, frame := some f }) none p₁) (fun r s' => r = .ok .next ∧ R (.ok (.ret .none)) s') p₁ s₁) :
    Sem.wp M Γ (topStub p).cur (Sem.finPost M Γ R) E p₀ s := by
  unfold topStub
  dsimp only
  rw [Sem.wp_bind']
  have h1' := h1 (E := E)
  rw [Sem.wp_bind] at h1'
  refine Sem.wp_mono _ _ _ (fun c' p' s' h' => ?_) (fun _ _ _ e => e) p₀ s h1'
  rw [Sem.wp_bind] at h'
  rw [Sem.wp_bind']
  refine Sem.wp_mono _ _ _ (fun f' p'' s'' h'' => ?_) (fun _ _ _ e => e) p' s' h'
  simp only [Sem.wp_pure, Prod.mk.injEq] at h''
  obtain ⟨⟨rfl, rfl⟩, rfl, rfl⟩ := h''
  rw [Sem.wp_bind']
  show Sem.wp M Γ (.call _ none false [] _) _ _ _ _
  rw [Sem.wp_call]
  refine wpCode_mono (fun r s₂ h₂ => ?_) h2
  obtain ⟨rfl, hR⟩ := h₂
  exact hR
theorem stub_wp (w : World) (os : OsState) {R : Result → Shared → Prop} {E : Value → Pos → Shared → Prop} (hR : R (.ok (.ret .none)) (Sh h18 2392 w os)) : Sem.wp (model pw w) Gc (topStub pw).cur (Sem.finPost (model pw w) Gc R) E default (Sh boot_heap boot_toks w os) := by
  refine stub_any (p₁ := ⟨0, 0, 0, 0⟩) (s₁ := Sh hA 187 w os) (c := .ref 13) (f := 14) (wrun_wp (pre_run w os) ⟨rfl, rfl, rfl⟩) ?_
  rw [env_is, enter_is]
  exact code_body w os ⟨rfl, hR⟩
noncomputable def loudB : Step → Bool
  | .halt (.done _) _ => false
  | _ => true
theorem done_through {den : Code → Sem Fin} {p : Program} {w : World} (s : Shared) (t : Thread) : loudB (step den p w s t) = true ∨ through t = true := by
  obtain ⟨heap, gens, drawn, toks, os⟩ := s
  obtain ⟨cur, code, pos, stack⟩ := t
  cases cur
  case pure fin =>
    cases fin with
    | again c => exact .inl rfl
    | done f =>
      cases stack with
      | nil => exact .inr rfl
      | cons F st => cases F <;> exact .inl rfl
  case raise e =>
    cases stack with
    | nil =>
      left
      show loudB (finish _ _) = true
      delta finish
      cases leftWithCleanup gens <;> rfl
    | cons F st => cases F <;> exact .inl rfl
  case finish e => left; delta step; dsimp only; cases leftWithCleanup gens <;> rfl
  case load a x k => left; delta step; dsimp only; cases heap.get? a <;> rfl
  case update a x f k => left; delta step; dsimp only; cases (heap.get? a).isSome <;> rfl
  case choose src n k => left; delta step; dsimp only; cases n <;> rfl
  case genState g k => left; delta step; dsimp only; cases gens[g]? <;> rfl
  case resume g r l k =>
    left; delta step; dsimp only
    cases gens[g]? with
    | none => rfl
    | some st =>
      cases st with
      | fresh c =>
        cases r with
        | send v => cases v <;> rfl
        | throw e => rfl
      | suspended => rfl
      | running => rfl
      | finished => rfl
  case yield v g0 l kk =>
    left; delta step; dsimp only
    cases splitAtGen stack with
    | none => rfl
    | some x => rfl
  all_goals exact .inl rfl
/-- the state before the last step -/
theorem before_end {den : Code → Sem Fin} {p : Program} {w : World} : ∀ {n : Nat} {s s' : Shared} {t : Thread} {f : Flow}, runN den p w n s t = .halted (.done f) s' → ∃ m t₁, runN den p w m s t = .running s' t₁ ∧ through t₁ = true
  | 0, s, s', t, f, h => by cases h
  | n + 1, s, s', t, f, h => by
    simp only [runN] at h
    cases hs : step den p w s t with
    | go s₂ t₂ =>
      rw [hs] at h
      obtain ⟨m, t₁, h1, h2⟩ := before_end h
      refine ⟨m + 1, t₁, ?_, h2⟩
      simp only [runN, hs]; exact h1
    | halt o s₂ =>
      rw [hs] at h
      simp only [Run.halted.injEq] at h
      obtain ⟨rfl, rfl⟩ := h
      have e := step_halt_same den p w s s₂ t _ hs
      subst e
      refine ⟨0, t, rfl, ?_⟩
      have q := done_through (den := den) (p := p) (w := w) s₂ t
      rw [hs] at q
      exact q.resolve_left fun q => (nomatch (show false = true from q))
theorem runs_of_wp {p : Program} {w : World} {c : Code} {t : Sem Fin} {s s₁ : Shared} {pos : Pos} (hz : s.asleep) (hg : s₁.gens = #[])
    (h : Sem.wp (model p w) ⟨c, none, none, [], none⟩ t (Sem.finPost (model p w) ⟨c, none, none, [], none⟩ fun r s' => (r = .ok (.ret .none) ∧ s' = s₁) ∧ leftWithCleanup s'.gens = false) (fun e _ s' => ((Except.error e : Result) = .ok (.ret .none) ∧ s' = s₁) ∧ leftWithCleanup s'.gens = false) pos s) :
    ∃ n t', schedN (denote table) p w n (.single s ⟨t, c, pos, []⟩) = .running (.single s₁ t') ∧ through t' = true := by
  obtain ⟨n, r, s', hn, hr, hs⟩ := (wp_iff_halts (M := model p w) (R := fun r s' => r = .ok (.ret .none) ∧ s' = s₁) t pos s).mp h
  subst hr hs
  obtain ⟨s'', hsch, hrun, hf⟩ := runNI_full (den := (model p w).den) (prog := p) (w := w) hn (outcomeOf_ends _) hz
  obtain rfl : s'' = s' := Shared.eq_of_forget_eq hf hg
  obtain ⟨s₂, hr₂, hf₂, hc⟩ := runNI_real (den := (model p w).den) (prog := p) (w := w) hn (outcomeOf_ends _)
  obtain ⟨m, t₁, h1, h2⟩ := before_end hrun
  have hne : ∀ k s₂, runN (model p w).den p w k s ⟨t, c, pos, []⟩ ≠ .halted (.unsupported "lifetime:generator-with-cleanup-left-suspended") s₂ := by
    intro k s₂ hk
    have a := runN_mono (model p w).den p w n k s ⟨t, c, pos, []⟩ _ s'' hrun
    have b := runN_mono (model p w).den p w k n s ⟨t, c, pos, []⟩ _ s₂ hk
    rw [Nat.add_comm, b] at a
    injection a with a1 _
    cases a1
  refine ⟨m, t₁, ?_, h2⟩
  have := schedN_eq_runN (model p w).den p w s ⟨t, c, pos, []⟩ hz ⟨hc, hne⟩ m
  rw [h1] at this
  exact this
end Mine
end

/-! HeadW -/
section
set_option maxRecDepth 100000
set_option maxHeartbeats 0
namespace Mine
noncomputable def qv : Program := { PySem.Challenge.pw_qu0068_01 with main := { PySem.Challenge.pw_qu0068_01.main with body := [topSt 18] } }
noncomputable def looseL : List Str := ["_wall", "Whitespace", "b1_set", "in_table_b1", "b3_exceptions", "map_table_b3", "_MAX_STRING_SIZE", "_MOVE_COST", "_CASE_COST", "_substitution_cost", "_levenshtein_distance", "_law_columns", "_law_parents", "_law_turned"]
theorem look1 (w : World) (os : OsState) : staticsOk (importedModules pw.main.body) (boot_heap w.params) (h18 w.params) = true := by kernel_rfl
theorem look2 (w : World) (os : OsState) : namesBound pw (h18 w.params) = true := by kernel_rfl
theorem look3 (w : World) (os : OsState) : gensDone (Sh h18 2392 w os) = true := by kernel_rfl
theorem look4 (w : World) (os : OsState) : laidKept (boot_heap w.params) (h18 w.params) = true := by kernel_rfl
theorem same1 (P : Params) : (h18 P).objs.toList.take 3 = (boot_heap P).objs.toList.take 3 := by kernel_rfl
theorem same2 (P : Params) : ((h18 P).objs.toList.drop 4).take 7 = (boot_heap P).objs.toList.drop 4 := by kernel_rfl
theorem life1 (P : Params) : (h18 P).life = (boot_heap P).life := by kernel_rfl
theorem asleep0 (w : World) (os : OsState) : (Sh boot_heap boot_toks w os).asleep := by
  have a : (boot_heap w.params).life.registered = [] := by kernel_rfl
  have b : (boot_heap w.params).life.counting = false := by kernel_rfl
  exact ⟨a, b⟩
end Mine
end

/-! HeadX -/
section
set_option maxRecDepth 100000
set_option maxHeartbeats 0
namespace Mine
theorem seen1 (w : World) (os : OsState) : seen ((recsOf qv).map (·.name)) (ownsOf qv) [] { (Sh h18 2392 w os) with gens := #[] } = expectedOf qv := by kernel_rfl
theorem seen2 (w : World) (os : OsState) : (h18 w.params).bltView = bltViewBooted := by kernel_rfl
theorem seen3 (w : World) (os : OsState) : ((h18 w.params).keysOk (looseW qv looseL) ((recsOf qv).map (·.name)) ((litsOf qv).map (·.1)) ((clssOf qv (looseW qv looseL)).map (·.name)) && (h18 w.params).accountedOkI (importedModules pw.main.body) && (h18 w.params).isNs mainGlobals && (h18 w.params).isNs builtinsNs && tablesOk qv (h18 w.params)) = true := by kernel_rfl
theorem seen4 (w : World) (os : OsState) : tabsOk qv (Sh h18 2392 w os) = true := by kernel_rfl
theorem seen5 (w : World) (os : OsState) : (pinSeenD qv (drecsOf qv) (Sh h18 2392 w os), plainSeenE qv (looseW qv looseL) (Sh h18 2392 w os), plainSeenD qv looseL (Sh h18 2392 w os), wideSeen qv (Sh h18 2392 w os), clsSeenW qv looseL (Sh h18 2392 w os)) = (pinGoodD (drecsOf qv), plainGoodE qv (looseW qv looseL), plainGoodD qv looseL, wideGood qv, clsGoodW qv looseL) := by kernel_rfl
end Mine
end

/-! HeadY -/
section
set_option maxRecDepth 100000
set_option maxHeartbeats 0
namespace Mine
noncomputable abbrev rw0 : OpenLaw := PySem.Challenge.rw_qu0068_01
theorem said1 : rw0.wellSaid = true := by kernel_rfl
theorem seen_all (w : World) (os : OsState) : openSeen qv looseL (importedModules pw.main.body) (fun _ => true) true (Sh h18 2392 w os) = openGood qv looseL := by
  have h5 := seen5 w os
  simp only [Prod.mk.injEq] at h5
  obtain ⟨a1, a2, a3, a4, a5⟩ := h5
  unfold openSeen openGood
  simp only [Prod.mk.injEq]
  refine ⟨seen1 w os, seen2 w os, ?_, seen4 w os, a1, a2, a3, a4, a5⟩
  have e3 := seen3 w os
  have e4 : ((Sh h18 2392 w os).gens.size == 0) = true := rfl
  rw [if_pos trivial, e4, Bool.and_true, Bool.and_true]
  exact e3
noncomputable def posOf : Stmt → Pos
  | .FunctionDef _ _ _ _ _ _ _ _ _ p => p
  | _ => ⟨0, 0, 0, 0⟩
theorem chains : chainsOk qv = true := by kernel_rfl
theorem def_law : defOf qv rw0.name = some (⟨rw0.name, argsOf (topSt 18), bodyOf (topSt 18), scopeOf (topSt 18), posOf (topSt 18)⟩, []) := by kernel_rfl
noncomputable abbrev rowL : RowW := rw0.row.toRowW
theorem promised0 : rowL.promised := ⟨[.list []], by decide +kernel, by decide +kernel⟩
theorem bare0 : pw.bare := ⟨rfl, rfl, rfl, rfl, rfl, by decide +kernel⟩
theorem opens0 : opensWell pw = true := by decide +kernel
theorem free0 : (frees rowL && rowL.within.isEmpty) = true := by decide +kernel
theorem thedef0 : pw.theDef rw0.name = some (argsOf (topSt 18), bodyOf (topSt 18), scopeOf (topSt 18)) := by kernel_rfl
theorem kw0 : kwWritten? (argsOf (topSt 18)).kwonlyargs (argsOf (topSt 18)).kw_defaults = some [] := by kernel_rfl
theorem plain0 : opening pw = plainProg pw.main.scope.names := by kernel_rfl
theorem fence0 (s : Shared) : fenceModules? pw s = some s := by kernel_rfl
theorem gens0 (w : World) (os : OsState) : leftWithCleanup (Sh h18 2392 w os).gens = false := by kernel_rfl
theorem bsize (P : Params) : (boot_heap P).objs.size = 11 := by kernel_rfl
theorem main_is : mainNs = 3 := by kernel_rfl
theorem same_get (P : Params) (b : Nat) (hb : b < 11) (hn : b ≠ 3) : (h18 P).get? b = (boot_heap P).get? b := by
  have e : (h18 P).objs[b]? = (boot_heap P).objs[b]? := by
    rw [← Array.getElem?_toList, ← Array.getElem?_toList]
    by_cases h : b < 3
    · rw [← List.getElem?_take_of_lt h, same1, List.getElem?_take_of_lt h]
    · obtain ⟨k, rfl⟩ : ∃ k, b = 4 + k := ⟨b - 4, by lia⟩
      rw [← List.getElem?_drop, ← List.getElem?_drop, ← same2, List.getElem?_take_of_lt (by lia)]
  unfold Heap.get?
  rw [e]
/-- the state behind the top -/
theorem top_ran (w : World) (os : OsState) : TopRan pw w (Sh boot_heap boot_toks w os) (Sh h18 2392 w os) := by
  obtain ⟨n, t, h1, h2⟩ := runs_of_wp (p := pw) (w := w) (c := .builtin "claim.caller" {}) (t := (topStub pw).cur) (s := Sh boot_heap boot_toks w os) (s₁ := Sh h18 2392 w os) (pos := default) (asleep0 w os) rfl (stub_wp w os ⟨⟨rfl, rfl⟩, gens0 w os⟩)
  obtain ⟨G, g0, g1, g2, g3, g4, g5⟩ := ground_of_open (q := qv) (XP := fun _ _ => True) (w := w) (fun _ _ => trivial) chains (seen_all w os)
  refine ⟨⟨n, t, h1, h2⟩, life1 w.params, rfl, fun b o hb hn => ?_, g2, statics_of_ok (look1 w os), g3, g4, g5, gens_of_done (look3 w os), names_of_bound (look2 w os), laid_of_kept (look4 w os)⟩
  have hlt : b < 11 := by have := Heap.lt_size hb; rw [show (Sh boot_heap boot_toks w os).heap.objs.size = 11 from bsize w.params] at this; exact this
  have hne : b ≠ 3 := fun e => hn (.inl (by rw [main_is]; exact e))
  exact (same_get w.params b hlt hne).trans hb
end Mine
end

/-! HeadZ -/
section
set_option maxRecDepth 100000
set_option maxHeartbeats 0
namespace Mine
/-- what is left to be shown: the call of the law -/
noncomputable def Walk : Prop := ∀ (w : World) (s₁ : Shared) (a : Addr) (items : Array Value) (xs : List Int), (∀ b o, (h18 w.params).get? b = some o → s₁.heap.get? b = some o) → s₁.heap.IsList a items → IntsAre items.toList xs → xs.length ≤ 63 → s₁.gens = #[] →
  wpAny (model pw w) callerA (PySem.call (.ref 187) [.ref a]) (fun v s' => v = .bool true ∧ PySem.Keeps s₁ s') (fun _ _ => False) s₁
theorem law_at (P : Params) : (h18 P).nsMap mainGlobals rw0.name = some (.ref 187) := by kernel_rfl
theorem good_of {c : ClaimW} {cl : Str → Option Addr} {mean : ExcName → Option Value} {args : List WData} {s₁ s' : Shared} (hg : s₁.gens = #[]) (hr : ∀ cls, c.raises args cls = false) (hp : c.post args (.bool true) args = true) (k : PySem.Keeps s₁ s') : GoodWG c cl mean args s₁ (.ok (.ret (.bool true))) s' := by
  obtain ⟨h', tk, rfl, kk⟩ := k
  refine GoodW.toG ⟨.inl ⟨_, .bool true, [], rfl, hr, ReadsW.bool true, hp, fun _ => ⟨List.nodup_nil, fun a ha => by cases ha⟩⟩, kk, rfl, hg⟩
theorem enter_law (walk : Walk) (w : World) (s₁ : Shared) (args : List WData) (vs : List Value) (as : List Addr) (cl : Str → Option Addr) (mean : ExcName → Option Value) (hK : ∀ b o, (h18 w.params).get? b = some o → s₁.heap.get? b = some o) (hgens : s₁.gens = #[])
    (hpre : rowL.claim.pre args = true) (hlay : WData.layableAll args = true) (hrd : ReadsAllW rowL.records cl s₁.heap vs args as) (hwl : WellAll w.params s₁.heap vs args) (hlo : ∀ a ∈ as, (a == sysModules) = false) :
    wpAny (model pw w) callerA (PySem.call (.ref 187) vs) (fun v s' => GoodWG rowL.claim cl mean args s₁ (.ok (.ret v)) s') (fun e s' => GoodWG rowL.claim cl mean args s₁ (.error e) s') s₁ := by
  have hr : ∀ cls, rowL.claim.raises args cls = false := fun _ => rfl
  wrow_args hpre hlay hrd hwl hlo
  rename_i xs _ _ _ _ _ _ _ a vs _ hL _ _ _ hI _ hlen _
  have hpost : rowL.claim.post [ofPy (PyData.list (List.map PyData.int xs))] (.bool true) [ofPy (PyData.list (List.map PyData.int xs))] = true := by wrow_post
  refine wpAny_mono (walk w s₁ a vs.toArray xs hK hL (by simpa using hI) (by lia) hgens) (fun v s' h => ?_) fun _ _ e => e.elim
  obtain ⟨rfl, k⟩ := h
  exact good_of hgens hr hpost k
/-- the given statement, but for the law's walk -/
theorem head (walk : Walk) : rw0.Holds := by
  refine holds_law said1 fun said => ⟨said, promised0, ⟨⟨bare0, opens0, rfl⟩, promised0.witness, fun w => ?_⟩⟩
  obtain ⟨s₀, e1, e2⟩ := Option.map_eq_some_iff.mp (boot_open (p := pw) (N := 1000) plain0 (by decide) fence0 w)
  obtain ⟨s, h4, h5⟩ := Option.bind_eq_some_iff.mp e1
  have A := AfterImport.of_importEnds (table_eq_tree ▸ h4)
  refine ⟨⟨s, A⟩, fun s' hs' => ?_⟩
  obtain rfl : s' = s := AfterImport.unique hs' A
  obtain ⟨hp, gs, dr, tk, os⟩ := s₀
  simp only [Prod.mk.injEq] at e2
  obtain ⟨rfl, rfl, rfl, rfl⟩ := e2
  obtain ⟨G0, g0, g1, _⟩ := ground_of_open (q := qv) (XP := fun _ _ => True) (w := w) (fun _ _ => trivial) chains (seen_all w os)
  have hT := top_ran w os
  have hz : (Sh h18 2392 w os).asleep := Shared.asleep_of_life (s := Sh boot_heap boot_toks w os) (life1 w.params) (asleep0 w os)
  refine ⟨_, h5, rfl, Sh h18 2392 w os, hT, fun n hn => ?_, fun x hx => (nomatch hx), fun x hx => (nomatch hx), ?_⟩
  · obtain rfl : n = rw0.name := (by simpa using hn : _ ∧ n = rw0.row.name).2
    exact pinned_of_view g1 G0 def_law thedef0 kw0
  · refine ClaimW.callFrom_of_specG (c := rowL.claim) hz rfl fun args hpre hlay ord hord => ?_
    obtain ⟨hsame, hu, ha, hap, hm⟩ := frees_parts (Bool.and_eq_true_iff.mp free0).1
    have G : Ground qv looseL rowL.records (fun _ _ => True) w (Sh h18 2392 w os) _ _ (Sh h18 2392 w os).heap := G0
    obtain ⟨⟨vs, s₁⟩, hlaid⟩ := Option.isSome_iff_exists.mp (layAllW_isSome (P := w.params) (ord := ord) G.has args rowL.args (Sh h18 2392 w os) (pre_splitW hpre).1)
    have keeps := layAllW_keeps _ _ _ hlaid
    have hal := layAllW_rest _ _ _ hlaid
    obtain ⟨as, hrd, hin, hold⟩ := reads_layAllW hord _ _ _ hlaid hlay s₁.heap (fun _ _ e => e)
    have L : Laid rowL.records w (Sh h18 2392 w os) s₁ args vs as := ⟨⟨ord, hord, hlaid⟩, hrd, hin, hold, keeps, hal.1.trans rfl, hal.2.2.1⟩
    have G₁ := G.keeps (fun _ _ _ _ _ => trivial) keeps
    have hf : (Sh h18 2392 w os).heap.nsMap mainGlobals rowL.name = some (.ref 187) := law_at w.params
    have h := enter_law walk w s₁ args vs as (classAt (Sh h18 2392 w os).heap) (ExcName.means (Sh h18 2392 w os).heap) keeps L.gens hpre hlay L.reads L.well (L.low G.low)
    have hi := ident_freeW hu ha hap
    have hwi : rowL.claim.within = [] := rfl
    refine ⟨vs, s₁, hlaid, ?_⟩
    refine wpAny_bind (wpAny_nsGet G₁.T.g ?_)
    rw [hf]
    refine wpAny_bind (wpAny_mono h (fun v s' g => wpAny_pure ?_) fun e s' g => ?_)
    · have z := g.laid (c := rowL.claim) hsame hwi hi L
      exact ⟨_, rfl, z.1, z.2.1, z.2.2, fun q => by cases q⟩
    · have z := g.laid (c := rowL.claim) hsame hwi hi L
      exact ⟨z.1, z.2.1, z.2.2, fun q => by cases q⟩
end Mine
end

/-! WD1 -/
section
namespace Mine
theorem fm_lookup {β : Type} (g : Nat → Option β) (a : Nat) : ∀ (l : List Nat), (l.filterMap fun b => (g b).map fun o => (b, o)).lookup a = if a ∈ l then g a else none
  | [] => rfl
  | b :: l => by
    have ih := fm_lookup g a l
    by_cases h : a = b
    · subst h
      cases e : g a with
      | none => rw [List.filterMap_cons_none (by rw [e]; rfl), ih, e]; simp
      | some o => rw [List.filterMap_cons_some (b := (a, o)) (by rw [e]; rfl), List.lookup_cons]; simp
    · have hb : (a == b) = false := by simpa using h
      cases e : g b with
      | none => rw [List.filterMap_cons_none (by rw [e]; rfl), ih]; simp [h]
      | some o => rw [List.filterMap_cons_some (b := (b, o)) (by rw [e]; rfl), List.lookup_cons, hb]; simp only [ih, List.mem_cons, h, false_or]
noncomputable def fragOf (h : Heap) : Frag := (List.range h.objs.size).filterMap fun b => (h.get? b).map fun o => (b, o)
theorem fragOf_lookup (h : Heap) (a : Addr) : (fragOf h).lookup a = h.get? a := by
  unfold fragOf
  rw [fm_lookup]
  cases e : h.get? a with
  | none => simp
  | some o => rw [if_pos (List.mem_range.mpr (Heap.lt_size e))]
theorem fragOf_in (h : Heap) : (fragOf h).In h := fun a o e => by rw [← fragOf_lookup]; exact e
theorem fragOf_keep {h h' : Heap} (x : (fragOf h).In h') : ∀ b o, h.get? b = some o → h'.get? b = some o := fun b o e => x b o (by rw [fragOf_lookup]; exact e)
theorem h18_ns (P : Params) : (h18 P).isNs mainGlobals = true ∧ (h18 P).isNs builtinsNs = true ∧ (h18 P).isNs cStatics = true ∧ (h18 P).nsMap cStatics "sys.recursionlimit" = none := by
  refine ⟨?_, ?_, ?_, ?_⟩ <;> kernel_rfl
noncomputable def Cw (w : World) : Cx where
  prog := PySem.Challenge.pw_qu0068_01
  w := w
  K := fragOf (h18 w.params)
  G := (h18 w.params).nsMap mainGlobals
  B := (h18 w.params).nsMap builtinsNs
  tops := fun h x => by
    have k := fragOf_keep x
    obtain ⟨a, b, c, d⟩ := h18_ns w.params
    exact ⟨(Heap.Ns.of_isNs a).keeps k, (Heap.Ns.of_isNs b).keeps k, _, (Heap.Ns.of_isNs c).keeps k, d⟩
end Mine
end

/-! WD2 -/
section
namespace Mine
variable {w : World}
theorem w_range : (Cw w).G (Str.ofString "range") = none ∧ (Cw w).B (Str.ofString "range") = some (.type "range") := by constructor <;> kernel_rfl
noncomputable def intB (o : Option Value) (i : Int) : Bool := match o with
  | some (.int j _) => j == i
  | _ => false
theorem of_intB {o : Option Value} {i : Int} (h : intB o i = true) : ∃ t, o = some (.int i t) := by
  cases o with
  | none => cases h
  | some v =>
    cases v <;> first | cases h | skip
    rename_i j t
    have : j = i := eq_of_beq h
    subst this
    exact ⟨t, rfl⟩
theorem w_tp : Tp (Cw w) := ⟨of_intB (by kernel_rfl), of_intB (by kernel_rfl), of_intB (by kernel_rfl), w_range⟩
theorem w_len : (Cw w).G (Str.ofString "len") = none ∧ (Cw w).B (Str.ofString "len") = some (.builtin "len") := by constructor <;> kernel_rfl
theorem fn_mk {a : Addr} {ps : List Str} {st : Stmt} {o : Obj} {fd : FuncData} (ho : (h18 w.params).get? a = some o) (hd : o.data = .func fd) (hb : fd.body = .stmts (bodyOf st)) (hn : fd.scope.names = namesOf st) (hk : fd.scope.kind = .function) (hco : fd.scope.isCoroutine = false) (hge : fd.scope.isGenerator = false) (hcl : fd.closure = []) (hgl : fd.globals = mainGlobals) (hbu : fd.builtins = builtinsNs)
    (hbi : ∀ vals : List Value, vals.length = ps.length → bindArgs fd ⟨vals, []⟩ = pure (ps.zip vals)) (hc : (h18 w.params).codeRecOk fd.code fd.qualname = true)
    (h1 : ((namesOf st).map (·.1)).Nodup) (h2 : ps.Nodup) (h3 : ∀ p ∈ ps, Slot? (namesOf st) p) (h4 : ∀ n, (namesOf st).lookup n ≠ some .free) : Fn (Cw w) a ps (namesOf st) (bodyOf st) :=
  ⟨⟨o, fd, by show (fragOf _).lookup a = _; rw [fragOf_lookup]; exact ho, hd, hb, hn, hk, hco, hge, hcl, hgl, hbu, hbi, fun h x => (Heap.CodeRec.of_ok hc).keeps (fragOf_keep x)⟩, h1, h2, h3, h4⟩
theorem nofree_of (N : List (Str × NameKind)) (h : (N.all fun p => p.2 != .free) = true) : ∀ n, N.lookup n ≠ some .free := fun n e => by
  have := List.all_eq_true.mp h _ (mem_of_lookupK e)
  simp at this
theorem vals2 {P : List Value → Prop} (h : ∀ a b, P [a, b]) : ∀ vals : List Value, vals.length = 2 → P vals
  | [a, b], _ => h a b
theorem vals1 {P : List Value → Prop} (h : ∀ a, P [a]) : ∀ vals : List Value, vals.length = 1 → P vals
  | [a], _ => h a
theorem vals3 {P : List Value → Prop} (h : ∀ a b c, P [a, b, c]) : ∀ vals : List Value, vals.length = 3 → P vals
  | [a, b, c], _ => h a b c
theorem f158 : Fn (Cw w) 158 [Str.ofString "ch_a", Str.ofString "ch_b"] (fnN 12) (fnB 12) := by
  refine fn_mk (o := o158v1 w.params) (by kernel_rfl) rfl rfl rfl rfl rfl rfl rfl rfl rfl (vals2 fun a b => ?_) (by kernel_rfl) (by decide) (by decide) ?_ (nofree_of _ (by kernel_rfl))
  · rfl
  · intro p hp; simp only [List.mem_cons, List.not_mem_nil, or_false] at hp; rcases hp with rfl | rfl <;> first | exact .inl rfl | exact .inr rfl
theorem f165 : Fn (Cw w) 165 [Str.ofString "a", Str.ofString "b", Str.ofString "max_cost"] (fnN 13) (fnB 13) := by
  refine fn_mk (o := o165v1 w.params) (by kernel_rfl) rfl rfl rfl rfl rfl rfl rfl rfl rfl (vals3 fun a b c => ?_) (by kernel_rfl) (by decide) (by decide) ?_ (nofree_of _ (by kernel_rfl))
  · rfl
  · intro p hp; simp only [List.mem_cons, List.not_mem_nil, or_false] at hp; rcases hp with rfl | rfl | rfl <;> first | exact .inl rfl | exact .inr rfl
theorem f172 : Fn (Cw w) 172 [Str.ofString "lead", Str.ofString "most"] (fnN 15) (fnB 15) := by
  refine fn_mk (o := o172v1 w.params) (by kernel_rfl) rfl rfl rfl rfl rfl rfl rfl rfl rfl (vals2 fun a b => ?_) (by kernel_rfl) (by decide) (by decide) ?_ (nofree_of _ (by kernel_rfl))
  · rfl
  · intro p hp; simp only [List.mem_cons, List.not_mem_nil, or_false] at hp; rcases hp with rfl | rfl <;> first | exact .inl rfl | exact .inr rfl
theorem f177 : Fn (Cw w) 177 [Str.ofString "leads"] (fnN 16) (fnB 16) := by
  refine fn_mk (o := o177v1 w.params) (by kernel_rfl) rfl rfl rfl rfl rfl rfl rfl rfl rfl (vals1 fun a => ?_) (by kernel_rfl) (by decide) (by decide) ?_ (nofree_of _ (by kernel_rfl))
  · rfl
  · intro p hp; simp only [List.mem_cons, List.not_mem_nil, or_false] at hp; rcases hp with rfl <;> first | exact .inl rfl | exact .inr rfl
theorem f182 : Fn (Cw w) 182 [Str.ofString "parents", Str.ofString "prices"] (fnN 17) (fnB 17) := by
  refine fn_mk (o := o182v1 w.params) (by kernel_rfl) rfl rfl rfl rfl rfl rfl rfl rfl rfl (vals2 fun a b => ?_) (by kernel_rfl) (by decide) (by decide) ?_ (nofree_of _ (by kernel_rfl))
  · rfl
  · intro p hp; simp only [List.mem_cons, List.not_mem_nil, or_false] at hp; rcases hp with rfl | rfl <;> first | exact .inl rfl | exact .inr rfl
theorem f105 : Fn (Cw w) 105 [Str.ofString "code"] (fnN 5) (fnB 5) := by
  refine fn_mk (o := o105v1 w.params) (by kernel_rfl) rfl rfl rfl rfl rfl rfl rfl rfl rfl (vals1 fun a => ?_) (by kernel_rfl) (by decide) (by decide) ?_ (nofree_of _ (by kernel_rfl))
  · rfl
  · intro p hp; simp only [List.mem_cons, List.not_mem_nil, or_false] at hp; rcases hp with rfl <;> first | exact .inl rfl | exact .inr rfl
theorem f151 : Fn (Cw w) 151 [Str.ofString "code"] (fnN 7) (fnB 7) := by
  refine fn_mk (o := o151v1 w.params) (by kernel_rfl) rfl rfl rfl rfl rfl rfl rfl rfl rfl (vals1 fun a => ?_) (by kernel_rfl) (by decide) (by decide) ?_ (nofree_of _ (by kernel_rfl))
  · rfl
  · intro p hp; simp only [List.mem_cons, List.not_mem_nil, or_false] at hp; rcases hp with rfl <;> first | exact .inl rfl | exact .inr rfl
theorem f187 : Fn (Cw w) 187 [Str.ofString "script"] (fnN 18) (fnB 18) := by
  refine fn_mk (o := o187v1 w.params) (by kernel_rfl) rfl rfl rfl rfl rfl rfl rfl rfl rfl (vals1 fun a => ?_) (by kernel_rfl) (by decide) (by decide) ?_ (nofree_of _ (by kernel_rfl))
  · rfl
  · intro p hp; simp only [List.mem_cons, List.not_mem_nil, or_false] at hp; rcases hp with rfl <;> first | exact .inl rfl | exact .inr rfl
theorem f38 : Fn (Cw w) 38 [Str.ofString "self", Str.ofString "ws"] (mNm 1) (mB 1) := by
  refine fn_mk (o := o38v1 w.params) (by kernel_rfl) rfl rfl rfl rfl rfl rfl rfl rfl rfl (vals2 fun a b => ?_) (by kernel_rfl) (by decide) (by decide) ?_ (nofree_of _ (by kernel_rfl))
  · rfl
  · intro p hp; simp only [List.mem_cons, List.not_mem_nil, or_false] at hp; rcases hp with rfl | rfl <;> first | exact .inl rfl | exact .inr rfl
theorem f45 : Fn (Cw w) 45 [Str.ofString "self"] (mNm 2) (mB 2) := by
  refine fn_mk (o := o45v1 w.params) (by kernel_rfl) rfl rfl rfl rfl rfl rfl rfl rfl rfl (vals1 fun a => ?_) (by kernel_rfl) (by decide) (by decide) ?_ (nofree_of _ (by kernel_rfl))
  · rfl
  · intro p hp; simp only [List.mem_cons, List.not_mem_nil, or_false] at hp; rcases hp with rfl <;> first | exact .inl rfl | exact .inr rfl
theorem f52 : Fn (Cw w) 52 [Str.ofString "self", Str.ofString "tabsize"] (mNm 3) (mB 3) := by
  refine fn_mk (o := o52v1 w.params) (by kernel_rfl) rfl rfl rfl rfl rfl rfl rfl rfl rfl (vals2 fun a b => ?_) (by kernel_rfl) (by decide) (by decide) ?_ (nofree_of _ (by kernel_rfl))
  · rfl
  · intro p hp; simp only [List.mem_cons, List.not_mem_nil, or_false] at hp; rcases hp with rfl | rfl <;> first | exact .inl rfl | exact .inr rfl
theorem f73 : Fn (Cw w) 73 [Str.ofString "self", Str.ofString "other"] (mNm 6) (mB 6) := by
  refine fn_mk (o := o73v1 w.params) (by kernel_rfl) rfl rfl rfl rfl rfl rfl rfl rfl rfl (vals2 fun a b => ?_) (by kernel_rfl) (by decide) (by decide) ?_ (nofree_of _ (by kernel_rfl))
  · rfl
  · intro p hp; simp only [List.mem_cons, List.not_mem_nil, or_false] at hp; rcases hp with rfl | rfl <;> first | exact .inl rfl | exact .inr rfl
end Mine
end

/-! WD3 -/
section
namespace Mine
variable {w : World}
theorem w_tp2 : Tp2 (Cw w) := ⟨w_tp, w_len, by constructor <;> kernel_rfl, by constructor <;> kernel_rfl, by constructor <;> kernel_rfl, by kernel_rfl, f158⟩
theorem w_tp6 : Tp6 (Cw w) := ⟨w_tp2, by constructor <;> kernel_rfl⟩
theorem w_tp10 : Tp10 (Cw w) := ⟨w_tp2, by constructor <;> kernel_rfl, by kernel_rfl, f172⟩
noncomputable def wmN (w : World) : Str → Option Value := (h18 w.params).nsMap 82
theorem w_o83 : (h18 w.params).get? 83 = some (o83v1 w.params) := by kernel_rfl
theorem w_ns82 : (h18 w.params).isNs 82 = true := by kernel_rfl
theorem w_cls : ClsOk (Cw w) (wmN w) := by
  refine ⟨fun h x => ClsAt.keeps ⟨?_, Heap.Ns.of_isNs w_ns82⟩ (fragOf_keep x), by kernel_rfl, by kernel_rfl, by kernel_rfl⟩
  rw [show wsC = 83 from rfl, w_o83]
  exact ⟨_, _, _, _, _, _, _, _, _, _, _, _, rfl⟩
theorem w_m45 : MethAt (Cw w) (wmN w) (Str.ofString "longest_run_of_spaces") 45 [Str.ofString "self"] 2 := ⟨by kernel_rfl, f45, o45v1 w.params, by show (fragOf _).lookup _ = _; rw [fragOf_lookup]; kernel_rfl, rfl⟩
theorem w_m52 : MethAt (Cw w) (wmN w) (Str.ofString "indent_level") 52 [Str.ofString "self", Str.ofString "tabsize"] 3 := ⟨by kernel_rfl, f52, o52v1 w.params, by show (fragOf _).lookup _ = _; rw [fragOf_lookup]; kernel_rfl, rfl⟩
theorem w_m73 : MethAt (Cw w) (wmN w) (Str.ofString "less") 73 [Str.ofString "self", Str.ofString "other"] 6 := ⟨by kernel_rfl, f73, o73v1 w.params, by show (fragOf _).lookup _ = _; rw [fragOf_lookup]; kernel_rfl, rfl⟩
theorem w_no : ∀ y, wsHas y = true → wmN w y = none := fun y h => by
  have hm : y ∈ [Str.ofString "raw", Str.ofString "n", Str.ofString "nt", Str.ofString "norm", Str.ofString "is_simple"] := by
    unfold wsHas at h
    exact List.contains_iff_mem.mp h
  simp only [List.mem_cons, List.not_mem_nil, or_false] at hm
  rcases hm with rfl | rfl | rfl | rfl | rfl <;> kernel_rfl
theorem w_tp5 : Tp5 (Cw w) (wmN w) := ⟨w_tp2, w_cls, w_no, w_m45, w_m52, w_m73⟩
noncomputable def strB (o : Option CFound) (x : Str) : Bool := match o with
  | some (.val (.str y _)) => y == x
  | _ => false
theorem of_strB {o : Option CFound} {x : Str} (h : strB o x = true) : ∃ t, o = some (.val (.str x t)) := by
  unfold strB at h
  split at h
  · rename_i y t
    have : y = x := eq_of_beq h
    subst this
    exact ⟨t, rfl⟩
  · cases h
theorem w_tp7 : Tp7 (Cw w) (wmN w) := ⟨w_tp5, by kernel_rfl, .type "type", by kernel_rfl, of_strB (by kernel_rfl), of_strB (by kernel_rfl)⟩
theorem w_tp8 : Tp8 (Cw w) (wmN w) := ⟨w_tp7, f38, by kernel_rfl, by kernel_rfl, by kernel_rfl, by constructor <;> kernel_rfl⟩
end Mine
end

/-! WD4 -/
section
namespace Mine
variable {w : World}
noncomputable def elemB (e : Int × Value) : Bool := match e.2 with
  | .int i _ => e.1 == hashInt i && e.2.scannable
  | _ => false
theorem elem_of {prog : Program} {e : Int × Value} (h : elemB e = true) : (∃ k, (intKind prog w).is k e.2 = true ∧ e.1 = (intKind prog w).hash k) ∧ e.2.scannable = true := by
  obtain ⟨i, v⟩ := e
  cases v <;> first | cases h | skip
  rename_i j t
  simp only [elemB, Bool.and_eq_true, beq_iff_eq] at h
  exact ⟨⟨j, by simp [intKind, Value.isInt], h.1⟩, h.2⟩
noncomputable def setEs (P : Params) : Array (Int × Value) := match (o95v1 P).data with
  | .set es _ _ => es
  | _ => #[]
noncomputable def setEp (P : Params) : Nat := match (o95v1 P).data with
  | .set _ ep _ => ep
  | _ => 0
theorem set_all (P : Params) : ((setEs P).toList.all elemB) = true := by kernel_rfl
theorem w_o95 (P : Params) : (h18 P).get? 95 = some (o95v1 P) := by kernel_rfl
theorem w_setOf {prog : Program} {w' : World} (h : Heap) (x : (fragOf (h18 w.params)).In h) : h.SetOf (intKind prog w') 95 (fun i => (setEs w.params).toList.any fun e => Value.isInt i e.2) 27 := by
  have hg := fragOf_keep x _ _ (w_o95 w.params)
  refine ⟨o95v1 w.params, setEs w.params, _, _, hg, ⟨rfl, rfl, rfl⟩, rfl, fun e he => elem_of (List.all_eq_true.mp (set_all w.params) e he), fun k => ?_, by rw [show (setEs w.params).size = 27 by kernel_rfl]; decide, by kernel_rfl, by kernel_rfl⟩
  rw [List.any_eq_true]
  rfl
noncomputable def farB (e : Int × Value) : Bool := match e.2 with
  | .int i _ => !isLetter i.toNat
  | _ => true
theorem set_far (P : Params) : ((setEs P).toList.all farB) = true := by kernel_rfl
theorem set_near (P : Params) : ((List.range 16).all fun d => (setEs P).toList.any fun e => Value.isInt ((65024 + d : Nat) : Int) e.2) = true := by kernel_rfl
theorem isInt_shape {i : Int} {v : Value} (h : Value.isInt i v = true) : ∃ t, v = .int i t := Value.isInt_shape h
theorem set_letter (P : Params) (c : Nat) (h : isLetter c = true) : ((setEs P).toList.any fun e => Value.isInt (c : Int) e.2) = false := by
  cases q : (setEs P).toList.any fun e => Value.isInt (c : Int) e.2 with
  | false => rfl
  | true =>
    obtain ⟨⟨i, v⟩, he, hv⟩ := List.any_eq_true.mp q
    obtain ⟨t, rfl⟩ := isInt_shape hv
    have := List.all_eq_true.mp (set_far P) _ he
    simp only [farB, Int.toNat_natCast, h] at this
    cases this
theorem set_sign (P : Params) (c : Nat) (h : isSign c = true) : ((setEs P).toList.any fun e => Value.isInt (c : Int) e.2) = true := by
  simp only [isSign, Bool.and_eq_true, decide_eq_true_eq] at h
  have := List.all_eq_true.mp (set_near P) (c - 65024) (List.mem_range.mpr (by lia))
  rwa [show 65024 + (c - 65024) = c by lia] at this
theorem w_b1 : (Cw w).G (Str.ofString "b1_set") = some (.ref 95) ∧ ∀ h : Heap, (Cw w).K.In h → ∃ S n, h.SetOf (intKind (Cw w).prog (Cw w).w) 95 S n ∧ (∀ c : Nat, isLetter c = true → S c = false) ∧ ∀ c : Nat, isSign c = true → S c = true :=
  ⟨by kernel_rfl, fun h x => ⟨_, _, w_setOf h x, set_letter w.params, set_sign w.params⟩⟩
end Mine
end

/-! WD5 -/
section
set_option maxRecDepth 100000
namespace Mine
variable {w : World}
/-- the table's items -/
noncomputable def tabE : List DictEntry := entsL 3 365 (tab.take (17 * 38)) ++ entsL 2 (365 + 51 * 38) (tab.drop (17 * 38))
theorem w_o106 (P : Params) : (h18 P).get? 106 = some (DO tabE) := by kernel_rfl
noncomputable def bigB (e : DictEntry) : Bool := match e.key with
  | .int i _ => decide (122 ≤ i) && e.hash == hashInt i
  | _ => false
theorem tab_big : tabE.all bigB = true := by kernel_rfl
noncomputable def isStrB (o : Option Value) (x : Str) : Bool := match o with
  | some (.str y _) => y == x
  | _ => false
theorem of_isStrB {o : Option Value} {x : Str} (h : isStrB o x = true) : ∃ t, o = some (.str x t) := by
  unfold isStrB at h
  split at h
  · rename_i y t
    have : y = x := eq_of_beq h
    subst this
    exact ⟨t, rfl⟩
  · cases h
noncomputable def tabF (i : Int) : Option Value := (tabE.find? fun e => Value.isInt i e.key).map (·.val)
theorem tab_signs : ((List.range 75).all fun (d : Nat) => isStrB (tabF ((119808 + 52 * (d / 25) + d % 25 : Nat) : Int)) (S [97 + d % 25])) = true := by kernel_rfl
theorem find_mem {α : Type} {p : α → Bool} {l : List α} {a : α} (h : l.find? p = some a) : a ∈ l ∧ p a = true := ⟨List.mem_of_find?_eq_some h, List.find?_some h⟩
theorem w_mapOf {prog : Program} {w' : World} (h : Heap) (x : (fragOf (h18 w.params)).In h) : h.MapOf (intKind prog w') 106 tabF := by
  have hg := fragOf_keep x _ _ (w_o106 w.params)
  refine ⟨DO tabE, ⟨tabE⟩, tabE.length, hg, ⟨rfl, rfl, rfl⟩, rfl, fun e he => ?_, fun k => ?_⟩
  · have hm : e ∈ tabE := by simpa using he
    have := List.all_eq_true.mp tab_big e hm
    unfold bigB at this
    split at this
    · rename_i i u hk
      simp only [Bool.and_eq_true, beq_iff_eq] at this
      exact ⟨i, by rw [hk]; simp [intKind, Value.isInt], this.2⟩
    · cases this
  · unfold findBy tabF
    rw [← Array.find?_toList]
    rfl
theorem tab_low {c : Nat} (h : c < 122) : tabF (c : Int) = none := by
  unfold tabF
  cases e : tabE.find? fun e => Value.isInt (c : Int) e.key with
  | none => rfl
  | some a =>
    obtain ⟨hm, hp⟩ := find_mem e
    have := List.all_eq_true.mp tab_big a hm
    obtain ⟨u, hk⟩ := isInt_shape hp
    unfold bigB at this
    rw [hk] at this
    simp only [Bool.and_eq_true, decide_eq_true_eq] at this
    lia
theorem tab_high {c : Nat} (h1 : 122 ≤ c) (h2 : isLetter c = true) : ∃ t, tabF (c : Int) = some (.str (S [low c]) t) := by
  unfold isLetter at h2
  simp only [Bool.or_eq_true, Bool.and_eq_true, decide_eq_true_eq] at h2
  have hc : (119808 ≤ c ∧ (c - 119808) / 52 < 3) ∧ (c - 119808) % 52 < 25 := by
    rcases h2 with (h2 | h2) | h2
    · exact absurd h2.2 (Nat.not_lt.mpr h1)
    · exact absurd h2.2 (Nat.not_lt.mpr (Nat.le_trans (by decide) h1))
    · exact h2
  obtain ⟨o, l, ho, hl, rfl⟩ : ∃ o l, o < 3 ∧ l < 25 ∧ c = 119808 + 52 * o + l := ⟨(c - 119808) / 52, (c - 119808) % 52, hc.1.2, hc.2, by rw [Nat.add_assoc, Nat.div_add_mod]; exact (Nat.add_sub_cancel' hc.1.1).symm⟩
  clear hc h2 h1
  have := of_isStrB (List.all_eq_true.mp tab_signs (25 * o + l) (List.mem_range.mpr (by lia)))
  rw [show (25 * o + l) / 25 = o by rw [Nat.mul_add_div (by decide), Nat.div_eq_of_lt hl]; rfl, show (25 * o + l) % 25 = l by rw [Nat.mul_add_mod, Nat.mod_eq_of_lt hl]] at this
  rw [show low (119808 + 52 * o + l) = 97 + l by unfold low; rw [if_neg (by lia), if_neg (by lia), show 119808 + 52 * o + l - 119808 = 52 * o + l by lia, Nat.mul_add_mod, Nat.mod_eq_of_lt (by lia)]]
  exact this
theorem w_b3 : (Cw w).G (Str.ofString "b3_exceptions") = some (.ref 106) ∧ ∀ h : Heap, (Cw w).K.In h → ∃ f, h.MapOf (intKind (Cw w).prog (Cw w).w) 106 f ∧ (∃ ob, h.get? 106 = some ob ∧ ob.dict = Option.none) ∧ (∀ c : Nat, c < 122 → isLetter c = true → f c = none) ∧ ∀ c : Nat, 122 ≤ c → isLetter c = true → ∃ t, f c = some (.str (S [low c]) t) :=
  ⟨by kernel_rfl, fun h x => ⟨tabF, w_mapOf h x, ⟨DO tabE, fragOf_keep x _ _ (w_o106 w.params), rfl⟩, fun c h _ => tab_low h, fun c h1 h2 => tab_high h1 h2⟩⟩
theorem w_tp4 : Tp4 (Cw w) := ⟨w_tp2, by constructor <;> kernel_rfl, w_b1, w_b3⟩
theorem w_tp11 : Tp11 (Cw w) (wmN w) := ⟨w_tp4, w_tp6, w_tp8, w_tp10, by constructor <;> kernel_rfl, by kernel_rfl, ⟨by kernel_rfl, f165⟩, ⟨by kernel_rfl, f177⟩, ⟨by kernel_rfl, f182⟩, ⟨by kernel_rfl, f105⟩, ⟨by kernel_rfl, f151⟩⟩
end Mine
end

/-! P4 -/
section
namespace Mine
noncomputable def sumN (f : Nat → Int) : Nat → Int
  | 0 => 0
  | n + 1 => sumN f n + f n
theorem sum_range (f : Nat → Int) : ∀ n, ((List.range n).map f).sum = sumN f n
  | 0 => rfl
  | n + 1 => by rw [List.range_succ, List.map_append, List.sum_append, sum_range f n]; simp [sumN]
theorem sumN_congr {f g : Nat → Int} : ∀ n, (∀ k, k < n → f k = g k) → sumN f n = sumN g n
  | 0, _ => rfl
  | n + 1, h => by simp only [sumN]; rw [sumN_congr n fun k hk => h k (by lia), h n (by lia)]
theorem sumN_lin {f g h : Nat → Int} {w : Int} : ∀ n, (∀ k, k < n → f k = g k + w * h k) → sumN f n = sumN g n + w * sumN h n
  | 0, _ => by simp [sumN]
  | n + 1, e => by
    simp only [sumN]
    rw [sumN_lin n fun k hk => e k (by lia), e n (by lia), Int.mul_add]
    lia
theorem sumN_same {f g : Nat → Int} {p : Nat} {c : Int} : ∀ n, n ≤ p → (∀ k, k < n → f k = g k + if k = p then c else 0) → sumN f n = sumN g n
  | 0, _, _ => rfl
  | n + 1, hp, e => by
    simp only [sumN]
    rw [sumN_same n (by lia) fun k hk => e k (by lia), e n (by lia), if_neg (by lia)]
    lia
theorem sumN_upd {f g : Nat → Int} {p : Nat} {c : Int} : ∀ n, p < n → (∀ k, k < n → f k = g k + if k = p then c else 0) → sumN f n = sumN g n + c
  | 0, hp, _ => by lia
  | n + 1, hp, e => by
    simp only [sumN]
    by_cases q : p = n
    · subst q
      rw [sumN_same p (Nat.le_refl _) fun k hk => e k (by lia), e p (by lia), if_pos rfl]
      lia
    · rw [sumN_upd n (by lia) fun k hk => e k (by lia), e n (by lia), if_neg (by lia)]
      lia
theorem sumN_zero {f : Nat → Int} (n : Nat) (h : ∀ k, k < n → f k = 0) : sumN f n = 0 := by
  rw [sumN_congr (g := fun _ => 0) n h]
  clear h
  induction n with
  | zero => rfl
  | succ n ih => simp [sumN, ih]
theorem get2_set2 {n i j a b : Nat} {net : List (List Int)} {v : Int} (h : Sq n net) (hi : i < n) (hj : j < n) : get2 (set2 net i j v) a b = if a = i ∧ b = j then v else get2 net a b := by
  unfold get2 set2
  have hl := h.2 i hi
  by_cases q : a = i
  · subst q
    have : rowAt (net.set a ((rowAt net a).set j v)) a = (rowAt net a).set j v := by
      conv => lhs; unfold rowAt
      rw [List.getElem?_set_self (by rw [h.1]; exact hi)]; rfl
    rw [this]
    by_cases q' : b = j
    · subst q'
      rw [List.getElem?_set_self (by rw [hl]; exact hj), if_pos ⟨rfl, rfl⟩]; rfl
    · rw [List.getElem?_set_ne (Ne.symm q'), if_neg fun e => q' e.2]
  · have : rowAt (net.set i ((rowAt net i).set j v)) a = rowAt net a := by
      unfold rowAt
      rw [List.getElem?_set_ne (Ne.symm q)]
    rw [this, if_neg fun e => q e.1]
theorem inc_at {l : List Int} {i j : Nat} (hi : i < l.length) : (inc l i)[j]?.getD 0 = l[j]?.getD 0 + if j = i then 1 else 0 := by
  unfold inc
  by_cases q : j = i
  · subst q
    rw [List.getElem?_set_self hi, if_pos rfl]; rfl
  · rw [List.getElem?_set_ne (Ne.symm q), if_neg q]; simp
/-- the net and the degrees behind a step -/
theorem tstep_net {par pr : List Int} {n : Nat} {st : List (List Int) × List Int} {j p : Nat} (hs : Sq n st.1) (hj : j < n) (hp : p < j) (hpar : par[j]?.getD 0 = (p : Int)) (h0 : ∀ a b, (j ≤ a ∨ j ≤ b) → get2 st.1 a b = 0) (a b : Nat) :
    get2 (tstep par pr st j).1 a b = if a = p ∧ b = j then -((2 : Int).fdiv (pr[j]?.getD 0)) else if a = j ∧ b = p then -((2 : Int).fdiv (pr[j]?.getD 0)) else if a = j ∧ b = j then (2 : Int).fdiv (pr[j]?.getD 0) else if a = p ∧ b = p then get2 st.1 p p + (2 : Int).fdiv (pr[j]?.getD 0) else get2 st.1 a b := by
  simp only [tstep, hpar, Int.toNat_natCast]
  have hpn : p < n := by lia
  have s1 := hs.set2 (j := j) (v := -((2 : Int).fdiv (pr[j]?.getD 0))) hpn
  have s2 := s1.set2 (j := p) (v := -((2 : Int).fdiv (pr[j]?.getD 0))) hj
  have s3 := s2.set2 (j := p) (v := get2 (set2 (set2 st.1 p j (-((2 : Int).fdiv (pr[j]?.getD 0)))) j p (-((2 : Int).fdiv (pr[j]?.getD 0)))) p p + (2 : Int).fdiv (pr[j]?.getD 0)) hpn
  rw [get2_set2 s3 hj hj, get2_set2 s2 hpn hpn, get2_set2 s1 hj hpn, get2_set2 hs hpn hj]
  rw [get2_set2 s2 hpn hpn, get2_set2 s1 hj hpn, get2_set2 hs hpn hj]
  rw [get2_set2 s1 hj hpn, get2_set2 hs hpn hj]
  have e1 : ¬ (j = p ∧ j = p) := by lia
  have e2 : ¬ (j = j ∧ j = p) := by lia
  have e3 : ¬ (j = p ∧ j = j) := by lia
  have e4 : ¬ (p = j ∧ p = p) := by lia
  have e5 : ¬ (p = p ∧ p = j) := by lia
  rw [if_neg e1, if_neg e2, if_neg e3, if_neg e4, if_neg e5, h0 j j (.inl (Nat.le_refl _)), Int.zero_add]
  by_cases c1 : a = p ∧ b = j
  · have n2 : ¬ (a = j ∧ b = p) := by lia
    have n3 : ¬ (a = j ∧ b = j) := by lia
    have n4 : ¬ (a = p ∧ b = p) := by lia
    simp only [if_pos c1, if_neg n2, if_neg n3, if_neg n4]
  · by_cases c2 : a = j ∧ b = p
    · have n3 : ¬ (a = j ∧ b = j) := by lia
      have n4 : ¬ (a = p ∧ b = p) := by lia
      simp only [if_neg c1, if_pos c2, if_neg n3, if_neg n4]
    · by_cases c3 : a = j ∧ b = j
      · simp only [if_neg c1, if_neg c2, if_pos c3]
      · by_cases c4 : a = p ∧ b = p
        · simp only [if_neg c1, if_neg c2, if_neg c3, if_pos c4]
        · simp only [if_neg c1, if_neg c2, if_neg c3, if_neg c4]
/-- the ways of a page: a new row's is its parent's and its own price -/
structure Ways (par pr : List Int) (d : Nat → Nat → Int) : Prop where
  ok : TOk par pr
  up : ∀ j : Nat, 0 < j → j < par.length → par[j]?.getD 0 < j
  zero : pr[0]?.getD 0 = 0
  self : ∀ i, i < par.length → d i i = 0
  new : ∀ m i : Nat, 0 < m → m < par.length → i < m → d i m = d i (par[m]?.getD 0).toNat + pr[m]?.getD 0
  new' : ∀ m i : Nat, 0 < m → m < par.length → i < m → d m i = d (par[m]?.getD 0).toNat i + pr[m]?.getD 0
noncomputable def dg (st : List (List Int) × List Int) (k : Nat) : Int := st.2[k]?.getD 0
structure Inv (pr : List Int) (d : Nat → Nat → Int) (M : Nat) (N : Nat → Nat → Int) (D : Nat → Int) : Prop where
  tau : sumN (fun k => 2 - D k) M = 2
  dt : ∀ i, i < M → sumN (fun k => d i k * (2 - D k)) M = sumN (fun k => pr[k]?.getD 0) M
  col : ∀ j, j < M → sumN (fun k => N k j) M = 0
  dn : ∀ i j, i < M → j < M → sumN (fun k => d i k * N k j) M = 2 * ((2 - D j) - if i = j then 2 else 0)
  out : ∀ i j, (M ≤ i ∨ M ≤ j) → N i j = 0
  outD : ∀ i, M ≤ i → D i = 0
theorem Inv.step {pr : List Int} {d : Nat → Nat → Int} {M p : Nat} {w pull : Int} {N N' : Nat → Nat → Int} {D D' : Nat → Int} (h : Inv pr d M N D) (hp : p < M) (hw : w * pull = 2) (hpr : pr[M]?.getD 0 = w)
    (d0 : ∀ i, i ≤ M → d i i = 0) (d1 : ∀ i, i < M → d i M = d i p + w) (d2 : ∀ i, i < M → d M i = d p i + w)
    (hN : ∀ a b, N' a b = if a = p ∧ b = M then -pull else if a = M ∧ b = p then -pull else if a = M ∧ b = M then pull else if a = p ∧ b = p then N p p + pull else N a b)
    (hD : ∀ k, D' k = D k + (if k = p then 1 else 0) + if k = M then 1 else 0) : Inv pr d (M + 1) N' D' := by
  have D1 : ∀ k, k < M → D' k = D k + if k = p then 1 else 0 := fun k hk => by rw [hD, if_neg (show ¬ k = M by lia)]; lia
  have DM : D' M = 1 := by rw [hD, h.outD M (Nat.le_refl _), if_neg (by lia), if_pos rfl]; lia
  have N1 : ∀ k j, k < M → j < M → N' k j = N k j + if k = p then (if j = p then pull else 0) else 0 := fun k j hk hj => by
    rw [hN, if_neg (by lia), if_neg (by lia), if_neg (by lia)]
    by_cases q : k = p
    · subst q
      by_cases q' : j = k
      · subst q'; simp
      · simp [q']
    · simp [q]
  have N2 : ∀ k, k < M → N' k M = if k = p then -pull else 0 := fun k hk => by
    rw [hN]
    by_cases q : k = p
    · rw [if_pos ⟨q, rfl⟩, if_pos q]
    · rw [if_neg (by lia), if_neg (by lia), if_neg (by lia), if_neg (by lia), if_neg q, h.out k M (.inr (Nat.le_refl _))]
  have N3 : ∀ j, j < M → N' M j = if j = p then -pull else 0 := fun j hj => by
    rw [hN, if_neg (by lia)]
    by_cases q : j = p
    · rw [if_pos ⟨rfl, q⟩, if_pos q]
    · rw [if_neg (by lia), if_neg (by lia), if_neg (by lia), if_neg q, h.out M j (.inl (Nat.le_refl _))]
  have N4 : N' M M = pull := by rw [hN, if_neg (by lia), if_neg (by lia), if_pos ⟨rfl, rfl⟩]
  refine ⟨?_, fun i hi => ?_, fun j hj => ?_, fun i j hi hj => ?_, fun i j hij => ?_, fun i hi => ?_⟩
  · simp only [sumN]
    rw [sumN_upd (g := fun k => 2 - D k) (p := p) (c := -1) M hp fun k hk => by rw [D1 k hk]; split <;> lia, h.tau, DM]
    lia
  · simp only [sumN]
    rw [hpr, DM]
    by_cases q : i = M
    · subst q
      rw [sumN_upd (g := fun k => d i k * (2 - D k)) (p := p) (c := -(d i p)) i hp fun k hk => by
        rw [D1 k hk]
        split
        · rename_i e; subst e; rw [show 2 - (D k + 1) = (2 - D k) - 1 by lia, Int.mul_sub]; lia
        · rw [Int.add_zero]; lia]
      rw [sumN_lin (g := fun k => d p k * (2 - D k)) (h := fun k => 2 - D k) (w := w) i fun k hk => by rw [d2 k hk, Int.add_mul]]
      rw [h.dt p hp, h.tau, d2 p hp, d0 p (by lia), d0 i (by lia)]
      lia
    · have hi : i < M := by lia
      rw [sumN_upd (g := fun k => d i k * (2 - D k)) (p := p) (c := -(d i p)) M hp fun k hk => by
        rw [D1 k hk]
        split
        · rename_i e; subst e; rw [show 2 - (D k + 1) = (2 - D k) - 1 by lia, Int.mul_sub]; lia
        · rw [Int.add_zero]; lia]
      rw [h.dt i hi, d1 i hi]
      lia
  · simp only [sumN]
    by_cases q : j = M
    · subst q
      rw [N4, sumN_upd (g := fun _ => 0) (p := p) (c := -pull) j hp fun k hk => by rw [N2 k hk]; lia, sumN_zero _ fun _ _ => rfl]
      lia
    · have hj : j < M := by lia
      rw [sumN_upd (g := fun k => N k j) (p := p) (c := if j = p then pull else 0) M hp fun k hk => N1 k j hk hj, h.col j hj, N3 j hj]
      split <;> lia
  · simp only [sumN]
    by_cases qj : j = M
    · subst qj
      rw [N4, DM]
      rw [sumN_upd (g := fun _ => 0) (p := p) (c := -(d i p * pull)) j hp fun k hk => by
        rw [N2 k hk]
        split
        · rename_i e; subst e; rw [Int.mul_neg]; lia
        · simp, sumN_zero _ fun _ _ => rfl]
      by_cases qi : i = j
      · subst qi
        rw [if_pos rfl, d2 p hp, d0 p (by lia), d0 i (by lia)]
        simp only [Int.zero_add, hw]
        lia
      · rw [if_neg qi, d1 i (by lia), Int.add_mul, hw]
        lia
    · have hj : j < M := by lia
      rw [sumN_upd (g := fun k => d i k * N k j) (p := p) (c := d i p * if j = p then pull else 0) M hp fun k hk => by
        rw [N1 k j hk hj, Int.mul_add]
        split
        · rename_i e; rw [e]
        · simp, N3 j hj, D1 j hj]
      by_cases qi : i = M
      · subst qi
        rw [sumN_lin (g := fun k => d p k * N k j) (h := fun k => N k j) (w := w) i fun k hk => by rw [d2 k hk, Int.add_mul], h.dn p j hp hj, h.col j hj, d2 p hp, d0 p (by lia), d0 i (by lia), if_neg (show ¬ i = j by lia)]
        by_cases q : j = p
        · subst q
          rw [if_pos rfl, if_pos rfl, if_pos rfl, if_pos rfl]; simp only [Int.zero_add, hw]; lia
        · rw [if_neg q, if_neg q, if_neg q, if_neg (Ne.symm q)]; lia
      · have hi : i < M := by lia
        rw [h.dn i j hi hj, d1 i hi]
        by_cases q : j = p
        · rw [if_pos q, if_pos q, if_pos q, Int.mul_neg, Int.add_mul, hw]; lia
        · rw [if_neg q, if_neg q, if_neg q]; lia
  · rw [hN, if_neg (by lia), if_neg (by lia), if_neg (by lia), if_neg (by lia), h.out i j (by lia)]
  · rw [hD, h.outD i (by lia), if_neg (by lia), if_neg (by lia)]; lia
theorem tstate_inv {par pr : List Int} {d : Nat → Nat → Int} (h : Ways par pr d) : ∀ m, m < par.length → Inv pr d (m + 1) (get2 (tstate par pr m).1) (dg (tstate par pr m))
  | 0, hm => by
    have g0 : ∀ a b, get2 (tstate par pr 0).1 a b = 0 := fun a b => by
      unfold get2 rowAt tstate
      simp only [List.getElem?_replicate]
      split <;> simp [List.getElem?_replicate]
      split <;> rfl
    have g1 : ∀ a, dg (tstate par pr 0) a = 0 := fun a => by
      unfold dg tstate
      simp only [List.getElem?_replicate]
      split <;> rfl
    refine ⟨?_, fun i hi => ?_, fun j hj => ?_, fun i j hi hj => ?_, fun i j _ => g0 i j, fun i _ => g1 i⟩
    · simp [sumN, g1]
    · have : i = 0 := by lia
      subst this
      simp only [sumN]; rw [h.self 0 hm, h.zero]; simp
    · simp [sumN, g0]
    · have e1 : i = 0 := by lia
      have e2 : j = 0 := by lia
      subst e1 e2
      simp [sumN, g0, g1]
  | m + 1, hm => by
    have ih := tstate_inv h m (by lia)
    have ok := tstate_ok h.ok m (by lia)
    have hp := h.ok.parOk (m + 1) (by lia) hm
    have hup := h.up (m + 1) (by lia) hm
    have hpr := h.ok.prOk (m + 1) (by lia) hm
    obtain ⟨p, hpe⟩ : ∃ p : Nat, par[m + 1]?.getD 0 = (p : Int) := ⟨(par[m + 1]?.getD 0).toNat, by lia⟩
    have hpm : p < m + 1 := by lia
    have n1 := h.new (m + 1)
    have n2 := h.new' (m + 1)
    rw [hpe, Int.toNat_natCast] at n1 n2
    refine ih.step (p := p) (w := pr[m + 1]?.getD 0) (pull := (2 : Int).fdiv (pr[m + 1]?.getD 0)) hpm ?_ rfl (fun i hi => h.self i (by lia)) (fun i hi => n1 i (by lia) hm hi) (fun i hi => n2 i (by lia) hm hi) ?_ fun k => ?_
    · rcases hpr with e | e <;> rw [e] <;> rfl
    · exact tstep_net ok.sq hm hpm hpe ih.out
    · show (tstep par pr (tstate par pr m) (m + 1)).2[k]?.getD 0 = _
      simp only [tstep, hpe, Int.toNat_natCast]
      rw [inc_at (by rw [inc_len, ok.len]; exact hm), inc_at (by rw [ok.len]; lia)]
      rfl
theorem sum_getD : ∀ (l : List Int), l.sum = sumN (fun k => l[k]?.getD 0) l.length := fun l => by
  rw [← sum_range]
  congr 1
  refine List.ext_getElem (by simp) fun i h1 h2 => ?_
  simp only [List.getElem_map, List.getElem_range]
  rw [List.getElem?_eq_getElem h1]; rfl
theorem turnedR_get {par pr : List Int} {i j : Nat} (hi : i < par.length) (hj : j < par.length) : get2 (turnedR par pr) i j = 2 * (2 - dg (tstate par pr (par.length - 1)) i) * (2 - dg (tstate par pr (par.length - 1)) j) - pr.sum * get2 (tstate par pr (par.length - 1)).1 i j := by
  conv => lhs; unfold get2 rowAt turnedR
  rw [List.getElem?_map, List.getElem?_range hi]
  simp only [Option.map_some, Option.getD_some]
  rw [List.getElem?_map, List.getElem?_range hj]
  rfl
theorem turned_id {par pr : List Int} {d : Nat → Nat → Int} (h : Ways par pr d) {i j : Nat} (hi : i < par.length) (hj : j < par.length) :
    ((List.range par.length).map fun m => d i m * get2 (turnedR par pr) m j).sum = if i = j then 4 * pr.sum else 0 := by
  rw [sum_range]
  have I := tstate_inv h (par.length - 1) (by lia)
  rw [show par.length - 1 + 1 = par.length by lia] at I
  have tg : ∀ k, k < par.length → get2 (turnedR par pr) k j = _ := fun k hk => turnedR_get hk hj
  generalize tstate par pr (par.length - 1) = st at I tg
  have W : sumN (fun k => pr[k]?.getD 0) par.length = pr.sum := by rw [sum_getD, h.ok.len]
  rw [sumN_lin (g := fun k => (2 * (2 - dg st j)) * (d i k * (2 - dg st k))) (h := fun k => d i k * get2 st.1 k j) (w := -pr.sum) par.length fun k hk => ?_]
  · have e : sumN (fun k => (2 * (2 - dg st j)) * (d i k * (2 - dg st k))) par.length = 2 * (2 - dg st j) * pr.sum := by
      rw [sumN_lin (g := fun _ => 0) (h := fun k => d i k * (2 - dg st k)) (w := 2 * (2 - dg st j)) par.length fun k _ => by lia, sumN_zero _ fun _ _ => rfl, I.dt i hi, W]
      lia
    rw [e, I.dn i j hi hj]
    generalize dg st j = t
    generalize pr.sum = s
    have e1 : 2 * (2 - t) * s = (2 * s) * (2 - t) := by rw [Int.mul_assoc, Int.mul_comm (2 - t) s, ← Int.mul_assoc]
    have e2 : -s * (2 * (2 - t - if i = j then 2 else 0)) = -((2 * s) * (2 - t - if i = j then 2 else 0)) := by rw [Int.neg_mul, ← Int.mul_assoc, Int.mul_comm s 2]
    rw [e1, e2, Int.mul_sub (2 * s) (2 - t)]
    split <;> lia
  · rw [tg k hk]
    generalize dg st j = t
    generalize dg st k = t'
    generalize get2 st.1 k j = z
    generalize pr.sum = s
    generalize d i k = x
    rw [Int.mul_sub, show x * (2 * (2 - t') * (2 - t)) = 2 * (2 - t) * (x * (2 - t')) from ?_, show x * (s * z) = s * (x * z) from ?_, Int.neg_mul]
    · lia
    · rw [← Int.mul_assoc, Int.mul_comm x s, Int.mul_assoc]
    · rw [Int.mul_comm 2 (2 - t'), Int.mul_assoc (2 - t') 2 (2 - t), ← Int.mul_assoc x (2 - t'), Int.mul_comm]
end Mine
end

/-! P5 -/
section
namespace Mine
/-! a lead's columns are the class's own indents -/
noncomputable def Blank (l : List Nat) : Prop := ∀ c ∈ l, c = 32 ∨ c = 9
noncomputable def Stop (l : List Nat) : Prop := ∀ c, l.head? = some c → c ≠ 32 ∧ c ≠ 9
theorem wsGo_stop {mk : List Nat} (h : Stop mk) (g : Go) : wsGo mk g = g := by
  cases mk with
  | nil => rfl
  | cons c r =>
    have := h c rfl
    simp [wsGo, this.1, this.2]
theorem wsGo_app {mk : List Nat} : ∀ (l : List Nat) (g : Go), Blank l → wsGo (l ++ mk) g = wsGo mk (wsGo l g)
  | [], g, _ => rfl
  | c :: r, g, h => by
    have hr : Blank r := fun x hx => h x (List.mem_cons_of_mem _ hx)
    rcases h c List.mem_cons_self with rfl | rfl
    · simp only [List.cons_append, wsGo, if_true]; exact wsGo_app r _ hr
    · simp only [List.cons_append, wsGo, if_true]; rw [if_neg (by decide), if_neg (by decide)]; exact wsGo_app r _ hr
noncomputable def Fs (cnt : List Int) (t : Int) (m : Nat) : Int := sumN (fun k => (k : Int) / t * (cnt[k]?.getD 0)) m
theorem Fs_more {cnt : List Int} {t : Int} {m : Nat} (h : cnt.length ≤ m) : Fs cnt t m = Fs cnt t cnt.length := by
  unfold Fs
  induction h with
  | refl => rfl
  | step h ih =>
    rename_i m
    have h' : cnt.length ≤ m := h
    simp only [sumN]
    rw [ih, List.getElem?_eq_none h']; simp
theorem Fs_less {cnt : List Int} {t : Nat} : ∀ (m : Nat), m ≤ t → Fs cnt t m = 0 := fun m h => by
  unfold Fs
  refine sumN_zero m fun k hk => ?_
  rw [Int.ediv_eq_zero_of_lt (by lia) (by lia), Int.zero_mul]
theorem bump_get {cnt : List Int} {b k : Nat} : (bump cnt b)[k]?.getD 0 = cnt[k]?.getD 0 + if k = b then 1 else 0 := by
  unfold bump
  have e : ∀ k : Nat, (if cnt.length ≤ b then cnt ++ List.replicate (b - cnt.length + 1) 0 else cnt)[k]?.getD 0 = cnt[k]?.getD 0 := fun k => by
    split
    · rw [List.getElem?_append]
      split
      · rfl
      · rw [List.getElem?_replicate, List.getElem?_eq_none (l := cnt) (by lia)]
        split <;> rfl
    · rfl
  have hl : b < (if cnt.length ≤ b then cnt ++ List.replicate (b - cnt.length + 1) 0 else cnt).length := by
    split
    · simp; lia
    · lia
  simp only []
  by_cases q : k = b
  · subst q
    rw [List.getElem?_set_self hl, e, if_pos rfl]; rfl
  · rw [List.getElem?_set_ne (Ne.symm q), e, if_neg q]; simp
theorem Fs_bump {cnt : List Int} {t : Int} {b m : Nat} (h : b < m) : Fs (bump cnt b) t m = Fs cnt t m + (b : Int) / t := by
  unfold Fs
  refine sumN_upd m h fun k hk => ?_
  rw [bump_get, Int.mul_add]
  split
  · rename_i e; subst e; simp
  · simp
/-- what the column is of the class's numbers -/
noncomputable def indG (g : Go) (t : Int) : Int := g.b + t * (Fs g.cnt t g.cnt.length + g.nt)
theorem Fs_same {cnt : List Int} {t : Int} {m m' : Nat} (h : cnt.length ≤ m) (h' : cnt.length ≤ m') : Fs cnt t m = Fs cnt t m' := by rw [Fs_more h, Fs_more h']
theorem indG_tab {g : Go} {t : Nat} (ht : 0 < t) : indG ⟨bump g.cnt g.b, 0, g.n + 1, g.nt + 1⟩ t = ((indG g t).fdiv t + 1) * t := by
  unfold indG
  simp only []
  rw [Fs_same (m' := max g.cnt.length (g.b + 1)) (Nat.le_refl _) (by rw [bump_len]; lia), Fs_bump (by lia), Fs_same (cnt := g.cnt) (m := max g.cnt.length (g.b + 1)) (m' := g.cnt.length) (by lia) (Nat.le_refl _)]
  generalize Fs g.cnt t g.cnt.length = f
  rw [Int.fdiv_eq_ediv_of_nonneg _ (by lia), Int.add_mul_ediv_left _ _ (by lia)]
  rw [Int.mul_comm _ (t : Int), Int.natCast_zero, Int.zero_add]
  congr 1
  lia
theorem colStep_sp {t : Int} {col : Int} : colStep t col 32 = col + 1 := by
  unfold colStep
  rw [if_pos (by decide)]
theorem colStep_tab {t : Int} {col : Int} : colStep t col 9 = (col.fdiv t + 1) * t := by
  unfold colStep
  rw [if_neg (by decide)]
theorem col_go {t : Nat} (ht : 0 < t) : ∀ (l : List Nat) (g : Go), Blank l → l.foldl (colStep t) (indG g t) = indG (wsGo l g) t
  | [], g, _ => rfl
  | c :: r, g, h => by
    have hr : Blank r := fun x hx => h x (List.mem_cons_of_mem _ hx)
    rw [List.foldl_cons]
    rcases h c List.mem_cons_self with rfl | rfl
    · simp only [wsGo, if_true]
      rw [← col_go ht r _ hr, colStep_sp]
      congr 1
      unfold indG
      simp only []
      lia
    · simp only [wsGo, if_true]
      rw [if_neg (by decide), ← col_go ht r _ hr, colStep_tab, indG_tab ht]
theorem n_go : ∀ (l : List Nat) (g : Go), Blank l → (wsGo l g).n = l.foldl (colStep 1) g.n
  | [], g, _ => rfl
  | c :: r, g, h => by
    have hr : Blank r := fun x hx => h x (List.mem_cons_of_mem _ hx)
    rw [List.foldl_cons]
    rcases h c List.mem_cons_self with rfl | rfl
    · simp only [wsGo, if_true]
      rw [n_go r _ hr, colStep_sp]
    · simp only [wsGo, if_true]
      rw [if_neg (by decide), n_go r _ hr, colStep_tab, Int.fdiv_one, Int.mul_one]
theorem ilSum_Fs {cnt : List Int} {t : Nat} (ht : 0 < t) : ∀ j, ilSum cnt t j = Fs cnt t (t + j)
  | 0 => by rw [Nat.add_zero, Fs_less _ (Nat.le_refl _)]; rfl
  | j + 1 => by
    simp only [ilSum]
    rw [ilSum_Fs ht j]
    conv => rhs; unfold Fs; rw [show t + (j + 1) = (t + j) + 1 by lia]; simp only [sumN]
    rw [Int.fdiv_eq_ediv_of_nonneg _ (by lia), show ((t : Int) + j) = ((t + j : Nat) : Int) by lia, Int.toNat_natCast]
    rfl
theorem indR_indG {t : Nat} (ht : 0 < t) (l : List Nat) : indR (wsR l) t = indG (wsGo l ⟨[], 0, 0, 0⟩) t := by
  unfold indR wsR indG
  simp only []
  generalize wsGo l ⟨[], 0, 0, 0⟩ = g
  rw [ilSum_Fs ht]
  congr 3
  by_cases q : g.cnt.length ≤ t
  · rw [show ((g.cnt.length : Int) - t).toNat = 0 by lia, Nat.add_zero, Fs_less _ (Nat.le_refl _), Fs_less _ q]
  · congr 1; lia
theorem col_ind {l mk : List Nat} (h : Blank l) (hm : Stop mk) {t : Nat} (ht : 0 < t) : colOf (S l) t = indR (wsR (l ++ mk)) t := by
  rw [indR_indG ht, wsGo_app l _ h, wsGo_stop hm, ← col_go ht l _ h]
  unfold colOf
  have : indG ⟨[], 0, 0, 0⟩ t = 0 := by simp [indG, Fs, sumN]
  rw [this]
  simp [S]
theorem n_col {l mk : List Nat} (h : Blank l) (hm : Stop mk) : (wsR (l ++ mk)).n = colOf (S l) 1 := by
  unfold wsR
  simp only []
  rw [wsGo_app l _ h, wsGo_stop hm, n_go l _ h]
  unfold colOf
  simp [S]
/-! runs of blanks -/
theorem go_sp : ∀ (n : Nat) (r : List Nat) (g : Go), wsGo (List.replicate n 32 ++ r) g = wsGo r ⟨g.cnt, g.b + n, g.n + n, g.nt⟩
  | 0, r, g => by simp
  | n + 1, r, g => by
    rw [List.replicate_succ, List.cons_append]
    simp only [wsGo, if_true]
    rw [go_sp n]
    congr 2 <;> simp <;> lia
structure Short (B : Nat) (g : Go) : Prop where
  len : g.cnt.length ≤ B + 1
  b : g.b ≤ B
  nt : 0 ≤ g.nt
theorem join_toList (p q : Str) (r : List Str) : (Str.join tabS (p :: q :: r)).cps.toList = p.cps.toList ++ 9 :: (Str.join tabS (q :: r)).cps.toList := by
  have e : Str.join tabS (p :: q :: r) = p ++ tabS ++ Str.join tabS (q :: r) := rfl
  rw [e]
  show (p.cps ++ tabS.cps ++ _).toList = _
  simp [tabS]
theorem piece_sp {p : Str} (h1 : 9 ∉ p.cps.toList) (h2 : Blank p.cps.toList) : p.cps.toList = List.replicate p.length 32 := by
  refine List.eq_replicate_iff.mpr ⟨by simp [Str.length], fun c hc => ?_⟩
  rcases h2 c hc with q | q
  · exact q
  · subst q; exact absurd hc h1
theorem go_pieces {B : Nat} : ∀ (ps : List Str) (g : Go), (∀ p ∈ ps, 9 ∉ p.cps.toList ∧ p.length ≤ B) → Blank (Str.join tabS ps).cps.toList → Short B g → g.b = 0 → Short B (wsGo (Str.join tabS ps).cps.toList g)
  | [], g, _, _, hs, _ => hs
  | [p], g, h, hb, hs, h0 => by
    have hp := h p (by simp)
    have e : Str.join tabS [p] = p := rfl
    rw [e] at hb ⊢
    rw [piece_sp hp.1 hb, ← List.append_nil (List.replicate _ _), go_sp]
    exact ⟨hs.len, by show g.b + p.length ≤ B; lia, hs.nt⟩
  | p :: q :: r, g, h, hb, hs, h0 => by
    have hp := h p (by simp)
    rw [join_toList] at hb ⊢
    have hb1 : Blank p.cps.toList := fun c hc => hb c (List.mem_append_left _ hc)
    have hb2 : Blank (Str.join tabS (q :: r)).cps.toList := fun c hc => hb c (List.mem_append_right _ (List.mem_cons_of_mem _ hc))
    rw [piece_sp hp.1 hb1, go_sp]
    simp only [wsGo, if_true]
    rw [if_neg (by decide)]
    refine go_pieces (q :: r) _ (fun p hp => h p (List.mem_cons_of_mem _ hp)) hb2 ⟨?_, Nat.zero_le _, ?_⟩ rfl
    · simp only [bump_len]; have := hs.len; lia
    · have := hs.nt; show 0 ≤ g.nt + 1; lia
theorem long_le {l mk : List Nat} (h : Blank l) (hm : Stop mk) {B : Nat} (hB : ∀ r ∈ runLens (S l), r ≤ B) : Short B (wsGo (l ++ mk) ⟨[], 0, 0, 0⟩) := by
  rw [wsGo_app l _ h, wsGo_stop hm]
  have e : Str.join tabS (Txt.split (S l) tabS) = S l := StrLaws.join_split _ _
  have e' : (Str.join tabS (Txt.split (S l) tabS)).cps.toList = l := by rw [e]; simp [S]
  have := go_pieces (B := B) (Txt.split (S l) tabS) ⟨[], 0, 0, 0⟩ (fun p hp => ⟨StrLaws.split_free (S l) 9 p hp, ?_⟩) (by rw [e']; exact h) ⟨by simp, by simp, by simp⟩ rfl
  · rwa [e'] at this
  · have := hB (p.length : Int) (List.mem_map.mpr ⟨p, hp, rfl⟩)
    lia
/-! less -/
theorem lin {a b x y t0 t : Int} (h : a + t0 * x < b + t0 * y) (hxy : x ≤ y) (ht : t0 ≤ t) : a + t * x < b + t * y := by
  have e : t = t0 + (t - t0) := by lia
  have := Int.mul_le_mul_of_nonneg_left hxy (show 0 ≤ t - t0 by lia)
  rw [e, Int.add_mul, Int.add_mul]
  lia
theorem slope {a b x y t0 : Int} (h : a + t0 * x < b + t0 * y) (ha : 0 ≤ a) (hb : b ≤ t0) (h0 : 0 ≤ t0) : x ≤ y := by
  refine Int.not_lt.mp fun q => ?_
  have := Int.mul_le_mul_of_nonneg_left (show y + 1 ≤ x by lia) h0
  rw [Int.mul_add] at this
  lia
theorem less_all {r q : Ws} {B : Nat} (r1 : r.cnt.length ≤ B + 1) (q1 : q.cnt.length ≤ B + 1) (r2 : 0 ≤ r.tr ∧ r.tr ≤ B) (q2 : 0 ≤ q.tr ∧ q.tr ≤ B) (r4 : r.n = indR r 1) (q4 : q.n = indR q 1) :
    lessR r q = (List.range (B + 1)).all fun (i : Nat) => decide (indR r (i + 1) < indR q (i + 1)) := by
  have far : ∀ (r : Ws) (t : Int), r.cnt.length ≤ t → indR r t = r.tr + t * r.nt := fun r t h => by
    unfold indR
    rw [show ((r.cnt.length : Int) - t).toNat = 0 by lia]
    simp [ilSum]
  rw [Bool.eq_iff_iff, List.all_eq_true]
  simp only [List.mem_range, decide_eq_true_eq]
  obtain ⟨M, hM⟩ : ∃ M : Nat, max (longR r) (longR q) = M := ⟨_, (Int.toNat_of_nonneg (Int.le_trans r2.1 (Int.le_trans (Int.le_max_right _ _) (Int.le_max_left _ _)))).symm⟩
  obtain ⟨a1, a2, b1, b2, hB⟩ : r.cnt.length ≤ M + 1 ∧ r.tr ≤ M ∧ q.cnt.length ≤ M + 1 ∧ q.tr ≤ M ∧ M ≤ B := by
    have u1 : longR r ≤ M := hM ▸ Int.le_max_left _ _
    have u2 : longR q ≤ M := hM ▸ Int.le_max_right _ _
    have v1 : (r.cnt.length : Int) - 1 ≤ longR r := Int.le_max_left _ _
    have v2 : (q.cnt.length : Int) - 1 ≤ longR q := Int.le_max_left _ _
    have w1 : r.tr ≤ longR r := Int.le_max_right _ _
    have w2 : q.tr ≤ longR q := Int.le_max_right _ _
    have x1 : longR r ≤ B := Int.max_le.mpr ⟨by lia, r2.2⟩
    have x2 : longR q ≤ B := Int.max_le.mpr ⟨by lia, q2.2⟩
    have x : (M : Int) ≤ B := hM ▸ Int.max_le.mpr ⟨x1, x2⟩
    exact ⟨by lia, Int.le_trans w1 u1, by lia, Int.le_trans w2 u2, by lia⟩
  have hr := r2.1
  clear r1 q1 r2 q2
  unfold lessR
  rw [r4, q4, hM, Int.toNat_natCast]
  constructor
  · intro h i hi
    split at h
    · cases h
    · rename_i h1
      split at h
      · rename_i h2
        have h := of_decide_eq_true h
        rw [far r (i + 1) (by lia), far q (i + 1) (by lia)]
        rw [far r 1 (by lia), far q 1 (by lia)] at h1
        exact lin (t0 := 1) (Int.not_le.mp h1) h (by lia)
      · rename_i h2
        rw [List.all_eq_true] at h
        simp only [List.mem_range, decide_eq_true_eq] at h
        by_cases c1 : i = 0
        · subst c1; exact Int.not_le.mp h1
        · by_cases c2 : i ≤ M
          · have := h (i - 1) (by lia)
            rw [show (2 : Int) + ((i - 1 : Nat) : Int) = i + 1 by lia] at this
            exact this
          · have hM0 : 0 < M := by lia
            have h0 := h (M - 1) (by lia)
            rw [show (2 : Int) + ((M - 1 : Nat) : Int) = M + 1 by lia] at h0
            rw [far r _ (by lia), far q _ (by lia)] at h0
            rw [far r _ (by lia), far q _ (by lia)]
            exact lin h0 (slope h0 hr (by lia) (by lia)) (by lia)
  · intro h
    have h1 : indR r 1 < indR q 1 := h 0 (Nat.succ_pos _)
    rw [if_neg (Int.not_le.mpr h1)]
    split
    · rename_i h2
      have h0 := h B (Nat.lt_succ_self _)
      rw [far r _ (by lia), far q _ (by lia)] at h0
      exact decide_eq_true (slope h0 hr (by lia) (by lia))
    · rw [List.all_eq_true]
      simp only [List.mem_range, decide_eq_true_eq]
      intro i hi
      have := h (i + 1) (by lia)
      rw [show (((i + 1 : Nat) : Int) + 1) = 2 + i by lia] at this
      exact this
theorem bad_map {α : Type} (f g : α → Int) : ∀ (l : List α), (!bad (l.map f) (l.map g)) = l.all fun i => decide (f i < g i)
  | [] => rfl
  | a :: l => by
    have ih := bad_map f g l
    unfold bad at ih ⊢
    simp only [List.map_cons, List.zip_cons_cons, List.any_cons, List.all_cons, Bool.not_or, ih]
    congr 1
    rw [← decide_not]
    exact decide_eq_decide.mpr (by lia)
/-- the class's «less» is the law's own -/
theorem less_bad {xs : List Str} {x y mx my : List Nat} (hx : S x ∈ xs) (hy : S y ∈ xs) (bx : Blank x) (by_ : Blank y) (sx : Stop mx) (sy : Stop my) :
    lessR (wsR (x ++ mx)) (wsR (y ++ my)) = !bad (colsOf (S x) (mostR xs)) (colsOf (S y) (mostR xs)) := by
  have hB0 : 0 ≤ maxL (xs.flatMap runLens) := by
    obtain ⟨p, l, e⟩ := List.exists_cons_of_ne_nil (List.ne_nil_of_length_pos (split_pos (S x) tabS))
    have : (p.length : Int) ∈ xs.flatMap runLens := List.mem_flatMap.mpr ⟨S x, hx, List.mem_map.mpr ⟨p, by rw [e]; simp, rfl⟩⟩
    have := maxL_ge this
    lia
  obtain ⟨B, hB⟩ : ∃ B : Nat, maxL (xs.flatMap runLens) = B := ⟨_, (Int.toNat_of_nonneg hB0).symm⟩
  have hm : (mostR xs).toNat = B + 1 := by unfold mostR; lia
  have runs : ∀ {z : List Nat}, S z ∈ xs → ∀ r ∈ runLens (S z), r ≤ B := fun hz r hr => by
    rw [← hB]; exact maxL_ge (List.mem_flatMap.mpr ⟨_, hz, hr⟩)
  have sx' := long_le bx sx (runs hx)
  have sy' := long_le by_ sy (runs hy)
  rw [less_all (B := B) sx'.len sy'.len ⟨by unfold wsR; simp only []; lia, by have := sx'.b; unfold wsR; simp only []; lia⟩ ⟨by unfold wsR; simp only []; lia, by have := sy'.b; unfold wsR; simp only []; lia⟩ ?_ ?_]
  · unfold colsOf
    rw [hm, bad_map]
    congr 1
    funext i
    have e1 : colOf (S x) ((i : Int) + 1) = _ := col_ind bx sx (t := i + 1) (by lia)
    have e2 : colOf (S y) ((i : Int) + 1) = _ := col_ind by_ sy (t := i + 1) (by lia)
    rw [e1, e2]; rfl
  · rw [n_col bx sx]; exact col_ind bx sx (t := 1) (by lia)
  · rw [n_col by_ sy]; exact col_ind by_ sy (t := 1) (by lia)
end Mine
end

/-! P6 -/
section
namespace Mine
/-! the pile and the parents, over any order -/
theorem dropWhile_filter {α : Type} (p : α → Bool) : ∀ (l : List α), l.Pairwise (fun a b => p a = true → p b = true) → l.dropWhile (fun a => !p a) = l.filter p
  | [], _ => rfl
  | a :: l, h => by
    obtain ⟨h1, h2⟩ := List.pairwise_cons.mp h
    cases e : p a with
    | false =>
      rw [List.dropWhile_cons, e, List.filter_cons, e]
      simpa using dropWhile_filter p l h2
    | true =>
      have : (a :: l).filter p = a :: l := List.filter_eq_self.mpr fun b hb => by
        rcases List.mem_cons.mp hb with rfl | hb
        · exact e
        · exact h1 b hb e
      rw [this, List.dropWhile_cons, e]; simp
structure Ord (ls : Nat → Nat → Bool) (n : Nat) : Prop where
  trans : ∀ i j k, i < n → j < n → k < n → ls i j = true → ls j k = true → ls i k = true
noncomputable def okN (ls : Nat → Nat → Bool) (i j : Nat) : Prop := ∀ m, i < m → m ≤ j → ls i m = true
noncomputable def pl (ls : Nat → Nat → Bool) : Nat → List Nat
  | 0 => []
  | k + 1 => k :: (pl ls k).dropWhile fun i => !ls i k
theorem pl_facts {ls : Nat → Nat → Bool} {n : Nat} (h : Ord ls n) : ∀ k, k ≤ n → (pl ls k).Pairwise (fun a b => b < a) ∧ (∀ i, i ∈ pl ls k ↔ i < k ∧ okN ls i (k - 1)) ∧ (0 < k → k < n → (pl ls k).dropWhile (fun i => !ls i k) = (pl ls k).filter fun i => ls i k)
  | 0, _ => by refine ⟨List.Pairwise.nil, fun i => by simp [pl], by lia⟩
  | k + 1, hk => by
    obtain ⟨h1, h2, h3⟩ := pl_facts h k (by lia)
    have e : pl ls (k + 1) = k :: (pl ls k).filter fun i => ls i k := by
      show k :: _ = _
      congr 1
      cases k with
      | zero => rfl
      | succ k => exact h3 (by lia) (by lia)
    have mem : ∀ i, i ∈ pl ls (k + 1) ↔ i < k + 1 ∧ okN ls i k := fun i => by
      rw [e, List.mem_cons, List.mem_filter, h2]
      constructor
      · rintro (rfl | ⟨⟨a, b⟩, c⟩)
        · exact ⟨by lia, fun m _ _ => by lia⟩
        · refine ⟨by lia, fun m hm1 hm2 => ?_⟩
          by_cases q : m = k
          · subst q; exact c
          · exact b m hm1 (by lia)
      · rintro ⟨a, b⟩
        by_cases q : i = k
        · exact .inl q
        · exact .inr ⟨⟨by lia, fun m hm1 hm2 => b m hm1 (by lia)⟩, b k (by lia) (Nat.le_refl _)⟩
    have pw : (pl ls (k + 1)).Pairwise (fun a b => b < a) := by
      rw [e]
      refine List.pairwise_cons.mpr ⟨fun b hb => ((h2 b).mp (List.mem_filter.mp hb).1).1, h1.filter _⟩
    refine ⟨pw, mem, fun _ hn => dropWhile_filter _ _ ?_⟩
    refine (List.Pairwise.and_mem.mp pw).imp ?_
    rintro a b ⟨ha, hb, hab⟩ hl
    have a1 := (mem a).mp ha
    have b1 := (mem b).mp hb
    exact h.trans b a (k + 1) (by lia) (by lia) hn (b1.2 a hab (by lia)) hl
theorem pl_mem {ls : Nat → Nat → Bool} {n : Nat} (h : Ord ls n) {k i : Nat} (hk : k < n) : i ∈ pl ls (k + 1) ↔ i ≤ k ∧ okN ls i k := by
  rw [(pl_facts h (k + 1) hk).2.1 i]
  exact ⟨fun ⟨a, b⟩ => ⟨by lia, b⟩, fun ⟨a, b⟩ => ⟨by lia, b⟩⟩
/-- a row's pile is itself on its parent's -/
theorem pl_par {ls : Nat → Nat → Bool} {n : Nat} (h : Ord ls n) {m p i : Nat} (hm : m < n) (hp : p < m) (h1 : okN ls p m) (h2 : ∀ i, i < m → okN ls i m → i ≤ p) : i ∈ pl ls (m + 1) ↔ i = m ∨ i ∈ pl ls (p + 1) := by
  rw [pl_mem h hm, pl_mem h (by lia)]
  constructor
  · rintro ⟨a, b⟩
    by_cases q : i = m
    · exact .inl q
    · have := h2 i (by lia) b
      exact .inr ⟨this, fun x hx1 hx2 => b x hx1 (by lia)⟩
  · rintro (rfl | ⟨a, b⟩)
    · exact ⟨Nat.le_refl _, fun x _ _ => by lia⟩
    · refine ⟨by lia, fun x hx1 hx2 => ?_⟩
      by_cases q : x ≤ p
      · exact b x hx1 q
      · by_cases q' : i = p
        · subst q'; exact h1 x hx1 hx2
        · exact h.trans i p x (by lia) (by lia) (by lia) (b p (by lia) (Nat.le_refl _)) (h1 x (by lia) hx2)
theorem last_max (f : Nat → Bool) : ∀ n, ((List.range n).filter f ≠ []) → (((List.range n).filter f).getLast?.getD 0 < n ∧ f (((List.range n).filter f).getLast?.getD 0) = true ∧ ∀ i, i < n → f i = true → i ≤ ((List.range n).filter f).getLast?.getD 0)
  | 0, h => absurd rfl h
  | n + 1, h => by
    rw [List.range_succ, List.filter_append] at h ⊢
    cases e : f n with
    | true =>
      have : [n].filter f = [n] := by simp [e]
      rw [this, List.getLast?_concat]
      exact ⟨by simp, e, fun i hi _ => by simp; lia⟩
    | false =>
      have q : [n].filter f = [] := by simp [e]
      rw [q, List.append_nil] at h ⊢
      obtain ⟨a, b, c⟩ := last_max f n h
      refine ⟨by lia, b, fun i hi hf => ?_⟩
      by_cases q : i = n
      · subst q; rw [e] at hf; cases hf
      · exact c i (by lia) hf
/-! the rows that the law draws -/
structure RowFit (k : Nat) (r : Row) : Prop where
  zero : k = 0 → r = ⟨[], [], [], 0⟩
  blank : Blank r.lead
  row : 0 < k → r.lead ≠ [] ∧ ∃ kind l o, And7 (kind < 3) (5 * (k - 1) ≤ l) (l < 5 * k) (o < 3) (r.small = [97 + l]) (r.mark = markOf k kind l o) (r.price = if kind = 0 then 1 else 2)
theorem blank_nil : Blank [] := fun _ h => nomatch h
theorem leadOf_blank {old : List Nat} (h : Blank old) {q : Nat} (hq : q < 4) : Blank (leadOf old q) ∧ leadOf old q ≠ [] := by
  have b : ∀ (a b : List Nat), Blank a → Blank b → Blank (a ++ b) := fun a b h1 h2 c hc => (List.mem_append.mp hc).elim (h1 c) (h2 c)
  have s : Blank [32] := fun c hc => by simp at hc; exact .inl hc
  have t : Blank [9] := fun c hc => by simp at hc; exact .inr hc
  have st : Blank [32, 9] := fun c hc => by simp at hc; exact hc
  unfold leadOf
  obtain rfl | rfl | rfl | rfl : q = 0 ∨ q = 1 ∨ q = 2 ∨ q = 3 := by lia
  · exact ⟨b _ _ h s, by simp⟩
  · exact ⟨b _ _ h t, by simp⟩
  · exact ⟨b _ _ s h, by simp⟩
  · exact ⟨b _ _ h st, by simp⟩
theorem rowsR_fit (ys : List Nat) : ∀ k r, (rowsR ys)[k]? = some r → RowFit k r := by
  suffices h : ∀ (ys : List Nat) (rs : List Row), 0 < rs.length → (∀ k r, rs[k]? = some r → RowFit k r) → ∀ k r, (ys.foldl rowStep rs)[k]? = some r → RowFit k r by
    refine h ys _ (by simp) fun k r hr => ?_
    have hk := (List.getElem?_eq_some_iff.mp hr).1
    have : k = 0 := by simp at hk; lia
    subst this
    cases hr
    exact ⟨fun _ => rfl, blank_nil, fun h => by lia⟩
  intro ys
  induction ys with
  | nil => intro rs _ h; exact h
  | cons y ys ih =>
    intro rs hpos h
    refine ih _ (by simp [rowStep]) fun k r hr => ?_
    unfold rowStep at hr
    rw [List.getElem?_append] at hr
    split at hr
    · exact h k r hr
    · rename_i hk
      have hk' : k = rs.length := by
        have := (List.getElem?_eq_some_iff.mp hr).1
        simp at this; lia
      subst hk'
      rw [Nat.sub_self] at hr
      cases hr
      have ho : Blank (oldOf rs (y % 60 % rs.length)) := by
        unfold oldOf
        cases e : rs[y % 60 % rs.length]? with
        | none => exact blank_nil
        | some r' => exact (h _ r' e).blank
      have hl := leadOf_blank ho (q := y / 60 % 4) (by lia)
      exact ⟨fun q => by lia, hl.1, fun _ => ⟨hl.2, y / 240 % 3, 5 * (rs.length - 1) + y / 720 % 5, y / 3600 % 3, by lia, by lia, by lia, by lia, rfl, rfl, rfl⟩⟩
theorem RowFit.stop {k : Nat} {r : Row} (hk : k ≤ 5) (h : RowFit k r) : Stop r.mark := by
  by_cases q : k = 0
  · rw [h.zero q]; intro c hc; cases hc
  · obtain ⟨_, kind, l, o, h1, h2, h3, h4, _, h5, _⟩ := h.row (by lia)
    rw [h5]
    intro c hc
    unfold markOf at hc
    obtain rfl | rfl | rfl : kind = 0 ∨ kind = 1 ∨ kind = 2 := by lia
    all_goals (simp at hc; lia)
/-- the page -/
structure Page (rs : List Row) : Prop where
  pos : 0 < rs.length
  most : rs.length ≤ 6
  fit : ∀ k r, rs[k]? = some r → RowFit k r
noncomputable def lsR (rs : List Row) (i j : Nat) : Bool := lessR (lineOf rs i) (lineOf rs j)
theorem pileR_pl (rs : List Row) : ∀ k, pileR rs k = pl (lsR rs) k
  | 0 => rfl
  | k + 1 => by
    show k :: popR rs k (pileR rs k) = _
    rw [pileR_pl rs k]; rfl
theorem lead_at {rs : List Row} {i : Nat} (hi : i < rs.length) : rowAt (colsR (leadsS rs)) i = colsOf (S rs[i].lead) (mostR (leadsS rs)) := by
  unfold rowAt colsR
  rw [List.getElem?_map]
  unfold leadsS
  rw [List.getElem?_map, List.getElem?_eq_getElem hi]; rfl
theorem lsR_bad {rs : List Row} (h : Page rs) {i j : Nat} (hi : i < rs.length) (hj : j < rs.length) : lsR rs i j = !bad (rowAt (colsR (leadsS rs)) i) (rowAt (colsR (leadsS rs)) j) := by
  have fi := h.fit i _ (List.getElem?_eq_getElem hi)
  have fj := h.fit j _ (List.getElem?_eq_getElem hj)
  have hm := h.most
  rw [lead_at hi, lead_at hj]
  unfold lsR lineOf
  rw [List.getElem?_eq_getElem hi, List.getElem?_eq_getElem hj]
  exact less_bad (List.mem_map.mpr ⟨_, List.getElem_mem hi, rfl⟩) (List.mem_map.mpr ⟨_, List.getElem_mem hj, rfl⟩) fi.blank fj.blank (fi.stop (by lia)) (fj.stop (by lia))
theorem lsR_all {rs : List Row} (h : Page rs) {i j : Nat} (hi : i < rs.length) (hj : j < rs.length) : lsR rs i j = (List.range (mostR (leadsS rs)).toNat).all fun (m : Nat) => decide (colOf (S rs[i].lead) (m + 1) < colOf (S rs[j].lead) (m + 1)) := by
  rw [lsR_bad h hi hj, lead_at hi, lead_at hj]
  unfold colsOf
  rw [bad_map]
theorem page_ord {rs : List Row} (h : Page rs) : Ord (lsR rs) rs.length := ⟨fun i j k hi hj hk h1 h2 => by
  rw [lsR_all h hi hj, List.all_eq_true] at h1
  rw [lsR_all h hj hk, List.all_eq_true] at h2
  rw [lsR_all h hi hk, List.all_eq_true]
  intro m hm
  have a := of_decide_eq_true (h1 m hm)
  have b := of_decide_eq_true (h2 m hm)
  exact decide_eq_true (by lia)⟩
theorem col_pos (t : Int) (ht : 0 < t) : ∀ (l : List Nat) (c : Int), Blank l → 0 ≤ c → (l = [] → 0 < c) → 0 < l.foldl (colStep t) c
  | [], c, _, _, h => h rfl
  | x :: l, c, hb, h0, _ => by
    rw [List.foldl_cons]
    have hp : 0 < colStep t c x := by
      rcases hb x List.mem_cons_self with rfl | rfl
      · rw [colStep_sp]; lia
      · rw [colStep_tab, Int.fdiv_eq_ediv_of_nonneg _ (by lia)]
        have := Int.ediv_nonneg h0 (by lia : 0 ≤ t)
        exact Int.mul_pos (by lia) ht
    exact col_pos t ht l _ (fun y hy => hb y (List.mem_cons_of_mem _ hy)) (by lia) fun _ => hp
theorem root_ok {rs : List Row} (h : Page rs) {j : Nat} (h0 : 0 < j) (hj : j < rs.length) : lsR rs 0 j = true := by
  rw [lsR_all h (by lia) hj, List.all_eq_true]
  intro m _
  have f0 := (h.fit 0 _ (List.getElem?_eq_getElem (by lia))).zero rfl
  have fj := h.fit j _ (List.getElem?_eq_getElem hj)
  rw [f0]
  refine decide_eq_true ?_
  have e : colOf (S []) ((m : Int) + 1) = 0 := rfl
  rw [e]
  unfold colOf
  have e2 : (S rs[j].lead).cps.toList = rs[j].lead := by simp [S]
  rw [e2]
  exact col_pos _ (by lia) _ _ fj.blank (Int.le_refl _) fun q => absurd q (fj.row h0).1
theorem aboveOk_ok {rs : List Row} (h : Page rs) {i j : Nat} (hi : i < j) (hj : j < rs.length) : aboveOk (colsR (leadsS rs)) i j = true ↔ okN (lsR rs) i j := by
  unfold aboveOk okN
  rw [List.all_eq_true]
  constructor
  · intro a m h1 h2
    have := a (m - (i + 1)) (List.mem_range.mpr (by lia))
    rw [show i + 1 + (m - (i + 1)) = m by lia] at this
    rw [lsR_bad h (by lia) (by lia)]
    exact this
  · intro a m hm
    have hm := List.mem_range.mp hm
    rw [← lsR_bad h (by lia) (by lia)]
    exact a _ (by lia) (by lia)
theorem above_ne {rs : List Row} (h : Page rs) {j : Nat} (h0 : 0 < j) (hj : j < rs.length) : aboveR (colsR (leadsS rs)) j j ≠ [] := fun q => by
  have : 0 ∈ aboveR (colsR (leadsS rs)) j j := List.mem_filter.mpr ⟨List.mem_range.mpr h0, (aboveOk_ok h h0 hj).mpr fun m h1 h2 => root_ok h h1 (by lia)⟩
  rw [q] at this
  cases this
theorem parR_facts {rs : List Row} (h : Page rs) {j : Nat} (h0 : 0 < j) (hj : j < rs.length) :
    parR (colsR (leadsS rs)) j < j ∧ okN (lsR rs) (parR (colsR (leadsS rs)) j) j ∧ ∀ i, i < j → okN (lsR rs) i j → i ≤ parR (colsR (leadsS rs)) j := by
  obtain ⟨a, b, c⟩ := last_max (fun i => aboveOk (colsR (leadsS rs)) i j) j (above_ne h h0 hj)
  exact ⟨a, (aboveOk_ok h a hj).mp b, fun i hi ho => c i hi ((aboveOk_ok h hi hj).mpr ho)⟩
theorem pile_par {rs : List Row} (h : Page rs) {j i : Nat} (h0 : 0 < j) (hj : j < rs.length) : i ∈ pileR rs (j + 1) ↔ i = j ∨ i ∈ pileR rs (parR (colsR (leadsS rs)) j + 1) := by
  obtain ⟨a, b, c⟩ := parR_facts h h0 hj
  rw [pileR_pl, pileR_pl]
  exact pl_par (page_ord h) hj a b c
theorem pile_le {rs : List Row} (h : Page rs) {j i : Nat} (hj : j < rs.length) (hi : i ∈ pileR rs (j + 1)) : i ≤ j := by
  rw [pileR_pl] at hi
  exact ((pl_mem (page_ord h) hj).mp hi).1
theorem pile_self (rs : List Row) (j : Nat) : j ∈ pileR rs (j + 1) := by
  show j ∈ j :: popR rs j (pileR rs j)
  exact List.mem_cons_self
theorem page_draws {ys : List Nat} (h : ys.length ≤ 5) : Page (rowsR ys) := ⟨by rw [rowsR_len]; lia, by rw [rowsR_len]; lia, rowsR_fit ys⟩
end Mine
end

/-! P1 -/
section
namespace Mine
theorem subC_cases (a b : Str) : subC a b = 0 ∨ subC a b = 1 ∨ subC a b = 2 := by unfold subC; split <;> (try split) <;> simp
theorem subC_self (a : Str) : subC a a = 0 := by unfold subC; simp
theorem subC_comm (a b : Str) : subC a b = subC b a := by
  unfold subC
  rw [BEq.comm (a := a) (b := b), BEq.comm (a := Txt.lower a) (b := Txt.lower b)]
theorem subC_pos {x y : Nat} (h : x ≠ y) : subC (S [y]) (S [x]) ≠ 0 := by
  unfold subC
  rw [S_beq, decide_eq_false (by simpa using fun q => h q.symm)]
  simp only [Bool.false_eq_true, if_false]
  split <;> simp

inductive Step where
  | mat (c : Nat)
  | sub (x y : Nat)
  | del (x : Nat)
  | ins (y : Nat)
namespace Step
noncomputable def a : Step → List Nat | mat c => [c] | sub x _ => [x] | del x => [x] | ins _ => []
noncomputable def b : Step → List Nat | mat c => [c] | sub _ y => [y] | del _ => [] | ins y => [y]
noncomputable def cost : Step → Int | mat _ => 0 | sub x y => subC (S [y]) (S [x]) | del _ => 2 | ins _ => 2
noncomputable def isMat : Step → Bool | mat _ => true | _ => false
noncomputable def isGap : Step → Bool | del _ => true | ins _ => true | _ => false
noncomputable def Ok : Step → Prop | sub x y => x ≠ y | _ => True
noncomputable def swap : Step → Step | mat c => mat c | sub x y => sub y x | del x => ins x | ins y => del y
noncomputable def Far (s t : Step) : Prop := (∀ x ∈ s.a, ∀ y ∈ t.b, subC (S [y]) (S [x]) = 2) ∧ (∀ x ∈ t.a, ∀ y ∈ s.b, subC (S [y]) (S [x]) = 2)
end Step
open Step
theorem Step.Far.symm {s t : Step} (h : Far s t) : Far t s := ⟨h.2, h.1⟩
theorem Step.Far.swap {s t : Step} (h : Far s t) : Far s.swap t.swap := by
  obtain ⟨h1, h2⟩ := h
  have e1 : ∀ s : Step, s.swap.a = s.b := fun s => by cases s <;> rfl
  have e2 : ∀ s : Step, s.swap.b = s.a := fun s => by cases s <;> rfl
  unfold Far
  rw [e1, e2, e1, e2]
  exact ⟨fun x hx y hy => by rw [subC_comm]; exact h2 y hy x hx, fun x hx y hy => by rw [subC_comm]; exact h1 y hy x hx⟩
noncomputable def wa : List Step → List Nat | [] => [] | s :: r => s.a ++ wa r
noncomputable def wb : List Step → List Nat | [] => [] | s :: r => s.b ++ wb r
noncomputable def cost : List Step → Int | [] => 0 | s :: r => s.cost + cost r
noncomputable def good : List Step → Prop
  | [] => True
  | s :: r => (∀ t, r.head? = some t → t.isGap = true → s.isMat = true) ∧ good r
theorem wa_app (p q : List Step) : wa (p ++ q) = wa p ++ wa q := by induction p with | nil => rfl | cons s r ih => simp [wa, ih]
theorem wb_app (p q : List Step) : wb (p ++ q) = wb p ++ wb q := by induction p with | nil => rfl | cons s r ih => simp [wb, ih]
theorem cost_app (p q : List Step) : cost (p ++ q) = cost p + cost q := by
  induction p with
  | nil => simp [cost]
  | cons s r ih => simp only [List.cons_append, cost, ih]; lia
theorem good_app : ∀ (p q : List Step), good (p ++ q) → good p ∧ good q
  | [], q, h => ⟨trivial, h⟩
  | s :: p, q, h => by
    obtain ⟨h1, h2⟩ := h
    obtain ⟨h3, h4⟩ := good_app p q h2
    refine ⟨⟨fun t ht => h1 t ?_, h3⟩, h4⟩
    cases p with
    | nil => cases ht
    | cons t' p => exact ht
theorem wa_swap (p : List Step) : wa (p.map Step.swap) = wb p := by induction p with | nil => rfl | cons s r ih => cases s <;> simp [wa, wb, Step.swap, Step.a, Step.b, ih]
theorem wb_swap (p : List Step) : wb (p.map Step.swap) = wa p := by induction p with | nil => rfl | cons s r ih => cases s <;> simp [wa, wb, Step.swap, Step.a, Step.b, ih]
theorem cost_swap (p : List Step) : cost (p.map Step.swap) = cost p := by
  induction p with
  | nil => rfl
  | cons s r ih =>
    simp only [List.map_cons, cost, ih]
    cases s <;> simp only [Step.swap, Step.cost]
    rw [subC_comm]
theorem good_swap : ∀ (p : List Step), good p → good (p.map Step.swap)
  | [], _ => trivial
  | s :: r, ⟨h1, h2⟩ => by
    refine ⟨fun t ht hg => ?_, good_swap r h2⟩
    rw [List.head?_map] at ht
    obtain ⟨t', ht', rfl⟩ := Option.map_eq_some_iff.mp ht
    have hg' : t'.isGap = true := by cases t' <;> first | rfl | cases hg
    have := h1 t' ht' hg'
    cases s <;> first | rfl | cases this
/-- a run of steps costs no more than two for every sign -/
noncomputable def nM : List Step → Nat | [] => 0 | s :: r => (if s.isMat then 1 else 0) + nM r
noncomputable def nG : List Step → Nat | [] => 0 | s :: r => (if s.isGap then 1 else 0) + nG r
theorem gaps_le : ∀ (p : List Step), good p → nG p ≤ nM p + 1 ∧ (∀ t, p.head? = some t → t.isGap = false → nG p ≤ nM p)
  | [], _ => ⟨by simp [nG], fun t ht => nomatch ht⟩
  | s :: r, ⟨h1, h2⟩ => by
    obtain ⟨h3, h4⟩ := gaps_le r h2
    have key : s.isMat = false → nG r ≤ nM r := fun q => by
      cases r with
      | nil => simp [nG]
      | cons t r =>
        refine h4 t rfl ?_
        cases e : t.isGap with
        | false => rfl
        | true => have := h1 t rfl e; rw [q] at this; cases this
    constructor
    · cases s <;> simp only [nG, nM, Step.isGap, Step.isMat, if_true, Bool.false_eq_true, if_false] at key ⊢ <;> first | lia | (have := key trivial; lia)
    · intro t ht hg
      cases ht
      cases s <;> simp only [nG, nM, Step.isGap, Step.isMat, if_true, Bool.false_eq_true, if_false] at key hg ⊢ <;> first | lia | (have := key trivial; lia) | cases hg
noncomputable def nS : List Step → Nat | [] => 0 | s :: r => (match s with | .sub _ _ => 1 | _ => 0) + nS r
noncomputable def nD : List Step → Nat | [] => 0 | s :: r => (match s with | .del _ => 1 | _ => 0) + nD r
noncomputable def nI : List Step → Nat | [] => 0 | s :: r => (match s with | .ins _ => 1 | _ => 0) + nI r
theorem counts (p : List Step) : (wa p).length = nM p + nS p + nD p ∧ (wb p).length = nM p + nS p + nI p ∧ nG p = nD p + nI p ∧ cost p ≤ 2 * nS p + 2 * nD p + 2 * nI p ∧ 0 ≤ cost p := by
  induction p with
  | nil => simp [wa, wb, cost, nM, nS, nD, nI, nG]
  | cons s r ih =>
    obtain ⟨h1, h2, h3, h4, h5⟩ := ih
    cases s with
    | mat c => simp [wa, wb, cost, nM, nS, nD, nI, nG, Step.a, Step.b, Step.cost, Step.isMat, Step.isGap]; lia
    | sub x y =>
      have := subC_cases (S [y]) (S [x])
      simp [wa, wb, cost, nM, nS, nD, nI, nG, Step.a, Step.b, Step.cost, Step.isMat, Step.isGap]; lia
    | del x => simp [wa, wb, cost, nM, nS, nD, nI, nG, Step.a, Step.b, Step.cost, Step.isMat, Step.isGap]; lia
    | ins y => simp [wa, wb, cost, nM, nS, nD, nI, nG, Step.a, Step.b, Step.cost, Step.isMat, Step.isGap]; lia
theorem run_le (p : List Step) (h : good p) : cost p ≤ 2 * (max (wa p).length (wb p).length : Nat) := by
  obtain ⟨h1, h2, h3, h4, h5⟩ := counts p
  have := (gaps_le p h).1
  lia
end Mine
end

/-! P2 -/
section
namespace Mine
open Step
/-- the table of distances -/
noncomputable def Dv (a b : List Nat) (i j : Nat) : Int := if i = 0 then 2 * j else (rows a b j)[i - 1]?.getD 0
theorem Dv_row {a b : List Nat} {i j : Nat} (hi : i < a.length) : (rows a b j)[i]? = some (Dv a b (i + 1) j) := by
  have : i < (rows a b j).length := by rw [rows_len]; exact hi
  unfold Dv
  rw [if_neg (by lia), Nat.add_sub_cancel, List.getElem?_eq_getElem this]; rfl
theorem Dv_zero {a b : List Nat} {i : Nat} (hi : i ≤ a.length) : Dv a b i 0 = 2 * i := by
  cases i with
  | zero => simp [Dv]
  | succ i =>
    simp only [Dv, rows, row0, Nat.add_sub_cancel]
    rw [if_neg (by lia), List.getElem?_map, List.getElem?_range (by lia)]
    simp
    lia
theorem Dv_step {a b : List Nat} {i j : Nat} (hi : i < a.length) (hj : j < b.length) :
    Dv a b (i + 1) (j + 1) = min (min (if i = 0 then 2 * (j : Int) else Dv a b i (j + 1)) (Dv a b (i + 1) j) + 2) (Dv a b i j + subC (S [b[j]]) (S [a[i]])) := by
  have h1 := lrow_get (b[j]?.getD 0) a (rows a b j) (j * 2) (j * 2) i _ _ (List.getElem?_eq_getElem hi) (Dv_row hi)
  have h2 : (rows a b (j + 1))[i]? = _ := h1
  rw [Dv_row hi, Option.some.injEq] at h2
  rw [h2, List.getElem?_eq_getElem hj]
  simp only [Option.getD_some]
  cases i with
  | zero =>
    simp only [List.getElem?_cons_zero, Option.getD_some, if_true]
    rw [show Dv a b 0 j = 2 * j from by simp [Dv], Int.mul_comm]
  | succ i =>
    simp only [List.getElem?_cons_succ, Nat.add_one_ne_zero, if_false]
    rw [Dv_row (by lia)]
    have h3 : (rows a b (j + 1))[i]? = some (Dv a b (i + 1) (j + 1)) := Dv_row (by lia)
    have h4 : (lrow (b[j]?.getD 0) a (rows a b j) (j * 2) (j * 2))[i]? = some (Dv a b (i + 1) (j + 1)) := h3
    rw [List.getElem?_eq_getElem hj] at h4
    simp only [Option.getD_some] at h4
    rw [h4]; rfl
/-- where the steps stand -/
noncomputable def X (st : List Step) (u : Nat) : Nat := (wa (st.take u)).length
noncomputable def Y (st : List Step) (u : Nat) : Nat := (wb (st.take u)).length
noncomputable def cu (st : List Step) (u : Nat) : Int := cost (st.take u)
theorem take_succ' {st : List Step} {u : Nat} (hu : u < st.length) : st.take (u + 1) = st.take u ++ [st[u]] := by
  rw [List.take_add_one, List.getElem?_eq_getElem hu]; rfl
theorem X_succ {st : List Step} {u : Nat} (hu : u < st.length) : X st (u + 1) = X st u + st[u].a.length := by
  unfold X; rw [take_succ' hu, wa_app]; simp [wa]
theorem Y_succ {st : List Step} {u : Nat} (hu : u < st.length) : Y st (u + 1) = Y st u + st[u].b.length := by
  unfold Y; rw [take_succ' hu, wb_app]; simp [wb]
theorem cu_succ {st : List Step} {u : Nat} (hu : u < st.length) : cu st (u + 1) = cu st u + st[u].cost := by
  unfold cu; rw [take_succ' hu, cost_app]; simp [cost]
theorem st_split {st : List Step} {u : Nat} (hu : u < st.length) : st = st.take u ++ (st[u] :: st.drop (u + 1)) := by
  rw [← List.drop_eq_getElem_cons hu, List.take_append_drop]
theorem wa_at {st : List Step} {u : Nat} (hu : u < st.length) {x : Nat} (hx : st[u].a = [x]) : (wa st)[X st u]? = some x := by
  have : wa st = wa (st.take u) ++ (x :: wa (st.drop (u + 1))) := by
    conv => lhs; rw [st_split hu, wa_app]
    simp [wa, hx]
  rw [this]; unfold X
  rw [List.getElem?_append_right (Nat.le_refl _)]; simp
theorem wb_at {st : List Step} {u : Nat} (hu : u < st.length) {x : Nat} (hx : st[u].b = [x]) : (wb st)[Y st u]? = some x := by
  have : wb st = wb (st.take u) ++ (x :: wb (st.drop (u + 1))) := by
    conv => lhs; rw [st_split hu, wb_app]
    simp [wb, hx]
  rw [this]; unfold Y
  rw [List.getElem?_append_right (Nat.le_refl _)]; simp
theorem X_find : ∀ (st : List Step) (i : Nat), i < (wa st).length → ∃ u, ∃ h : u < st.length, X st u = i ∧ ∃ x, st[u].a = [x]
  | [], i, h => by simp [wa] at h
  | s :: r, i, h => by
    have hs : (∃ x, s.a = [x]) ∨ s.a = [] := by cases s <;> simp [Step.a]
    rcases hs with ⟨x, hx⟩ | hx
    · cases i with
      | zero => exact ⟨0, by simp, by simp [X, wa], x, hx⟩
      | succ i =>
        obtain ⟨u, hu, h1, x', h2⟩ := X_find r i (by simp [wa, hx] at h; lia)
        exact ⟨u + 1, by simp; lia, by simp only [X, List.take_succ_cons, wa, hx] at h1 ⊢; simp; lia, x', by simpa using h2⟩
    · obtain ⟨u, hu, h1, x', h2⟩ := X_find r i (by simpa [wa, hx] using h)
      exact ⟨u + 1, by simp; lia, by simpa only [X, List.take_succ_cons, wa, hx, List.nil_append] using h1, x', by simpa using h2⟩
theorem Y_find : ∀ (st : List Step) (i : Nat), i < (wb st).length → ∃ u, ∃ h : u < st.length, Y st u = i ∧ ∃ x, st[u].b = [x]
  | [], i, h => by simp [wb] at h
  | s :: r, i, h => by
    have hs : (∃ x, s.b = [x]) ∨ s.b = [] := by cases s <;> simp [Step.b]
    rcases hs with ⟨x, hx⟩ | hx
    · cases i with
      | zero => exact ⟨0, by simp, by simp [Y, wb], x, hx⟩
      | succ i =>
        obtain ⟨u, hu, h1, x', h2⟩ := Y_find r i (by simp [wb, hx] at h; lia)
        exact ⟨u + 1, by simp; lia, by simp only [Y, List.take_succ_cons, wb, hx] at h1 ⊢; simp; lia, x', by simpa using h2⟩
    · obtain ⟨u, hu, h1, x', h2⟩ := Y_find r i (by simpa [wb, hx] using h)
      exact ⟨u + 1, by simp; lia, by simpa only [Y, List.take_succ_cons, wb, hx, List.nil_append] using h1, x', by simpa using h2⟩
theorem mono_le {f : Nat → Int} {n : Nat} (h : ∀ u, u < n → f u ≤ f (u + 1)) : ∀ t u, t ≤ u → u ≤ n → f t ≤ f u := by
  intro t u htu
  induction htu with
  | refl => intro _; exact Int.le_refl _
  | step h' ih => intro hn; exact Int.le_trans (ih (by lia)) (h _ (by lia))
theorem cost_nonneg (s : Step) : 0 ≤ s.cost := by
  cases s <;> simp only [Step.cost] <;> first | lia | skip
  have := subC_cases (S [‹Nat›]) (S [‹Nat›])
  rename_i x y
  have := subC_cases (S [y]) (S [x]); lia
theorem X_mono {st : List Step} {t u : Nat} (h : t ≤ u) (hu : u ≤ st.length) : X st t ≤ X st u := by
  have := mono_le (f := fun u => (X st u : Int)) (n := st.length) (fun u hu => by simp only [X_succ hu]; lia) t u h hu
  lia
theorem Y_mono {st : List Step} {t u : Nat} (h : t ≤ u) (hu : u ≤ st.length) : Y st t ≤ Y st u := by
  have := mono_le (f := fun u => (Y st u : Int)) (n := st.length) (fun u hu => by simp only [Y_succ hu]; lia) t u h hu
  lia
theorem cu_mono {st : List Step} {t u : Nat} (h : t ≤ u) (hu : u ≤ st.length) : cu st t ≤ cu st u :=
  mono_le (f := fun u => cu st u) (n := st.length) (fun u hu => by simp only [cu_succ hu]; have := cost_nonneg st[u]; lia) t u h hu
/-- between two anchors -/
theorem gap_le {st : List Step} (hg : good st) {t u : Nat} (h : t ≤ u) (hu : u ≤ st.length) : cu st u - cu st t ≤ 2 * (max (X st u - X st t) (Y st u - Y st t) : Nat) := by
  have e : st.take u = st.take t ++ (st.take u).drop t := by
    conv => lhs; rw [← List.take_append_drop t (st.take u)]
    rw [List.take_take, Nat.min_eq_left h]
  have g : good ((st.take u).drop t) := by
    have h1 : good (st.take u) := by rw [← List.take_append_drop u st] at hg; exact (good_app _ _ hg).1
    rw [e] at h1
    exact (good_app _ _ h1).2
  have := run_le _ g
  have e1 : cu st u = cu st t + cost ((st.take u).drop t) := by unfold cu; conv => lhs; rw [e, cost_app]
  have e2 : X st u = X st t + (wa ((st.take u).drop t)).length := by unfold X; conv => lhs; rw [e, wa_app, List.length_append]
  have e3 : Y st u = Y st t + (wb ((st.take u).drop t)).length := by unfold Y; conv => lhs; rw [e, wb_app, List.length_append]
  rw [e1, e2, e3, Nat.add_sub_cancel_left, Nat.add_sub_cancel_left, Int.add_comm, Int.add_sub_cancel]
  exact this
theorem far_at {st : List Step} (hf : st.Pairwise Far) {u v : Nat} (hu : u < st.length) (hv : v < st.length) (h : u ≠ v) : Far st[u] st[v] := by
  rcases Nat.lt_or_ge u v with q | q
  · exact List.pairwise_iff_getElem.mp hf u v hu hv q
  · exact (List.pairwise_iff_getElem.mp hf v u hv hu (by lia)).symm
theorem anc_0 {j : Nat} : (0 : Int) + 2 * (max (0 + 1 - 0) (j + 1 - 0) : Nat) ≤ 2 * (j : Int) + 2 := by lia
theorem mx_i (i a : Nat) : i + 1 - a ≤ i - a + 1 := by lia
theorem mx_le {i i' j j' : Nat} (h1 : i' ≤ i + 1) (h2 : j' ≤ j + 1) : max i' j' ≤ max i j + 1 := Nat.max_le.mpr ⟨Nat.le_trans h1 (Nat.succ_le_succ (Nat.le_max_left _ _)), Nat.le_trans h2 (Nat.succ_le_succ (Nat.le_max_right _ _))⟩
theorem mx_up {m n : Nat} {c d : Int} (hm : n ≤ m + 1) (h : c + 2 * (m : Int) ≤ d) : c + 2 * (n : Int) ≤ d + 2 := by lia
theorem anc_a {i j a b : Nat} {c d : Int} (ha : a ≤ i) (hb : b ≤ j + 1) (h : c + 2 * (max (i - a) (j + 1 - b) : Nat) ≤ d) : c + 2 * (max (i + 1 - a) (j + 1 - b) : Nat) ≤ d + 2 := mx_up (mx_le (mx_i i a) (Nat.le_succ _)) h
theorem anc_b {i j a b : Nat} {c d : Int} (ha : a ≤ i + 1) (hb : b ≤ j) (h : c + 2 * (max (i + 1 - a) (j - b) : Nat) ≤ d) : c + 2 * (max (i + 1 - a) (j + 1 - b) : Nat) ≤ d + 2 := mx_up (mx_le (Nat.le_succ _) (mx_i j b)) h
theorem anc_c {i j a b : Nat} {c d : Int} (ha : a ≤ i) (hb : b ≤ j) (h : c + 2 * (max (i - a) (j - b) : Nat) ≤ d) : c + 2 * (max (i + 1 - a) (j + 1 - b) : Nat) ≤ d + 2 := mx_up (mx_le (mx_i i a) (mx_i j b)) h
theorem anc_late {c d : Int} {m : Nat} (h : c ≤ d) : c ≤ d + 2 * (m : Int) := by lia
theorem anc_gap {c d : Int} {m : Nat} (h : c - d ≤ 2 * (m : Int)) : c ≤ d + 2 * (m : Int) := by lia
theorem anc_at {i j : Nat} {c d s : Int} (h : c ≤ d) : c + s + 2 * (max (i + 1 - (i + 1)) (j + 1 - (j + 1)) : Nat) ≤ d + s := by
  rw [Nat.sub_self, Nat.sub_self]; simp; exact h
theorem diag_cost {s : Step} {x y : Nat} (hx : s.a = [x]) (hy : s.b = [y]) : s.cost = subC (S [y]) (S [x]) := by
  cases s with
  | mat c => cases hx; cases hy; simp only [Step.cost]; rw [subC_self]
  | sub a b => cases hx; cases hy; rfl
  | del a => cases hy
  | ins a => cases hx
theorem Dv_lower {st : List Step} (hg : good st) (hf : st.Pairwise Far) : ∀ (j i : Nat), j ≤ (wb st).length → i ≤ (wa st).length → ∃ t, t ≤ st.length ∧ X st t ≤ i ∧ Y st t ≤ j ∧ cu st t + 2 * (max (i - X st t) (j - Y st t) : Nat) ≤ Dv (wa st) (wb st) i j := by
  have z : X st 0 = 0 ∧ Y st 0 = 0 ∧ cu st 0 = 0 := by simp [X, Y, cu, wa, wb, cost]
  intro j
  induction j with
  | zero =>
    intro i _ hi
    refine ⟨0, by lia, by lia, by lia, ?_⟩
    rw [Dv_zero hi]; lia
  | succ j ihj =>
    intro i
    induction i with
    | zero =>
      intro _ _
      refine ⟨0, by lia, by lia, by lia, ?_⟩
      simp only [Dv, if_true]; lia
    | succ i ihi =>
      intro hj hi
      have hi' : i < (wa st).length := by lia
      have hj' : j < (wb st).length := by lia
      rw [Dv_step hi' hj']
      have sc := subC_cases (S [(wb st)[j]]) (S [(wa st)[i]])
      -- by a sign less of the second
      have k1 : ∃ t, t ≤ st.length ∧ X st t ≤ i + 1 ∧ Y st t ≤ j + 1 ∧ cu st t + 2 * (max (i + 1 - X st t) (j + 1 - Y st t) : Nat) ≤ Dv (wa st) (wb st) (i + 1) j + 2 := by
        obtain ⟨t, h1, h2, h3, h4⟩ := ihj (i + 1) (Nat.le_of_succ_le hj) hi
        exact ⟨t, h1, h2, Nat.le_succ_of_le h3, anc_b h2 h3 h4⟩
      have k2 : ∃ t, t ≤ st.length ∧ X st t ≤ i + 1 ∧ Y st t ≤ j + 1 ∧ cu st t + 2 * (max (i + 1 - X st t) (j + 1 - Y st t) : Nat) ≤ (if i = 0 then 2 * (j : Int) else Dv (wa st) (wb st) i (j + 1)) + 2 := by
        by_cases q : i = 0
        · rw [if_pos q, q]
          exact ⟨0, Nat.zero_le _, by rw [z.1]; exact Nat.zero_le _, by rw [z.2.1]; exact Nat.zero_le _, by rw [z.1, z.2.1, z.2.2]; exact anc_0⟩
        · rw [if_neg q]
          obtain ⟨t, h1, h2, h3, h4⟩ := ihi hj (Nat.le_of_succ_le hi)
          exact ⟨t, h1, Nat.le_succ_of_le h2, h3, anc_a h2 h3 h4⟩
      have k3 : ∃ t, t ≤ st.length ∧ X st t ≤ i + 1 ∧ Y st t ≤ j + 1 ∧ cu st t + 2 * (max (i + 1 - X st t) (j + 1 - Y st t) : Nat) ≤ Dv (wa st) (wb st) i j + subC (S [(wb st)[j]]) (S [(wa st)[i]]) := by
        obtain ⟨t, h1, h2, h3, h4⟩ := ihj i (Nat.le_of_succ_le hj) (Nat.le_of_succ_le hi)
        by_cases q : subC (S [(wb st)[j]]) (S [(wa st)[i]]) = 2
        · rw [q]
          exact ⟨t, h1, Nat.le_succ_of_le h2, Nat.le_succ_of_le h3, anc_c h2 h3 h4⟩
        · obtain ⟨u, hu, e1, x, hx⟩ := X_find st i hi'
          obtain ⟨v, hv, e2, y, hy⟩ := Y_find st j hj'
          have ex := wa_at hu hx
          rw [e1, List.getElem?_eq_getElem hi', Option.some.injEq] at ex
          have ey := wb_at hv hy
          rw [e2, List.getElem?_eq_getElem hj', Option.some.injEq] at ey
          rw [ex, ey] at q ⊢
          have huv : u = v := Decidable.byContradiction fun hne => q ((far_at hf hu hv hne).1 x (by simp [hx]) y (by simp [hy]))
          subst huv
          have hc := diag_cost hx hy
          have e3 := X_succ hu
          have e4 := Y_succ hu
          have e5 := cu_succ hu
          rw [hx, List.length_singleton, e1] at e3
          rw [hy, List.length_singleton, e2] at e4
          rw [hc] at e5
          have hle : cu st u ≤ Dv (wa st) (wb st) i j := by
            have gl := fun q => gap_le hg (t := t) (u := u) q (Nat.le_of_lt hu)
            rw [e1, e2] at gl
            refine Int.le_trans ?_ h4
            rcases Nat.lt_or_ge u t with q' | q'
            · exact anc_late (cu_mono (Nat.le_of_lt q') h1)
            · exact anc_gap (gl q')
          refine ⟨u + 1, hu, by rw [e3]; exact Nat.le_refl _, by rw [e4]; exact Nat.le_refl _, ?_⟩
          rw [e3, e4, e5]
          exact anc_at hle
      rcases Int.le_total (min (if i = 0 then 2 * (j : Int) else Dv (wa st) (wb st) i (j + 1)) (Dv (wa st) (wb st) (i + 1) j) + 2) (Dv (wa st) (wb st) i j + subC (S [(wb st)[j]]) (S [(wa st)[i]])) with q | q
      · rw [Int.min_eq_left q]
        rcases Int.le_total (if i = 0 then 2 * (j : Int) else Dv (wa st) (wb st) i (j + 1)) (Dv (wa st) (wb st) (i + 1) j) with q' | q'
        · rw [Int.min_eq_left q']; exact k2
        · rw [Int.min_eq_right q']; exact k1
      · rw [Int.min_eq_right q]; exact k3
theorem Dv_le {a b : List Nat} {i j : Nat} (hi : i ≤ a.length) : Dv a b i j ≤ 2 * i + 2 * j := by
  cases i with
  | zero => simp only [Dv, if_true]; lia
  | succ i =>
    have := rows_le a b j i _ (Dv_row (by lia))
    lia
theorem Dv_upper {st : List Step} : ∀ u, u ≤ st.length → Dv (wa st) (wb st) (X st u) (Y st u) ≤ cu st u := by
  intro u
  induction u with
  | zero => intro _; simp [X, Y, cu, wa, wb, cost, Dv]
  | succ u ih =>
    intro hu
    have ih := ih (by lia)
    have hu : u < st.length := hu
    have e3 := X_succ hu
    have e4 := Y_succ hu
    have e5 := cu_succ hu
    have lx : X st (u + 1) ≤ (wa st).length := by
      have := X_mono (st := st) (t := u + 1) (u := st.length) hu (Nat.le_refl _)
      unfold X at this; rw [List.take_length] at this; exact this
    have ly : Y st (u + 1) ≤ (wb st).length := by
      have := Y_mono (st := st) (t := u + 1) (u := st.length) hu (Nat.le_refl _)
      unfold Y at this; rw [List.take_length] at this; exact this
    rw [e5]
    have diag : ∀ x y, st[u].a = [x] → st[u].b = [y] → Dv (wa st) (wb st) (X st (u + 1)) (Y st (u + 1)) ≤ cu st u + subC (S [y]) (S [x]) := fun x y hx hy => by
      have ax := wa_at hu hx
      have ay := wb_at hu hy
      rw [hx] at e3
      rw [hy] at e4
      simp only [List.length_cons, List.length_nil, Nat.zero_add] at e3 e4
      rw [List.getElem?_eq_getElem (by lia), Option.some.injEq] at ax ay
      rw [e3, e4, Dv_step (by lia) (by lia), ax, ay]
      lia
    cases e : st[u] with
    | mat c =>
      have := diag c c (by rw [e]; rfl) (by rw [e]; rfl)
      rw [subC_self] at this
      simp only [Step.cost]; lia
    | sub x y => exact diag x y (by rw [e]; rfl) (by rw [e]; rfl)
    | del x =>
      rw [e] at e3 e4
      simp only [Step.a, Step.b, List.length_cons, List.length_nil, Nat.zero_add, Nat.add_zero] at e3 e4
      simp only [Step.cost]
      rw [e3, e4]
      cases hy : Y st u with
      | zero =>
        rw [Dv_zero (by lia)]
        rw [hy, Dv_zero (by lia)] at ih
        lia
      | succ y =>
        rw [hy] at ih
        rw [Dv_step (by lia) (by lia)]
        by_cases q : X st u = 0
        · rw [if_pos q]
          rw [q] at ih
          simp only [Dv, if_true] at ih
          lia
        · rw [if_neg q]; lia
    | ins y =>
      rw [e] at e3 e4
      simp only [Step.a, Step.b, List.length_cons, List.length_nil, Nat.zero_add, Nat.add_zero] at e3 e4
      simp only [Step.cost]
      rw [e3, e4]
      cases hx : X st u with
      | zero =>
        rw [hx] at ih
        simp only [Dv, if_true] at ih ⊢
        lia
      | succ x =>
        rw [hx] at ih
        rw [Dv_step (by lia) (by lia)]
        lia
theorem dp_steps {st : List Step} (hg : good st) (hf : st.Pairwise Far) (hne : wa st ≠ []) : dpLast (wa st) (wb st) = cost st := by
  have hpos : 0 < (wa st).length := List.length_pos_iff.mpr hne
  have e : dpLast (wa st) (wb st) = Dv (wa st) (wb st) (wa st).length (wb st).length := by
    unfold dpLast Dv
    rw [if_neg (by lia), List.getLast?_eq_getElem?, rows_len]
  have x : X st st.length = (wa st).length := by unfold X; rw [List.take_length]
  have y : Y st st.length = (wb st).length := by unfold Y; rw [List.take_length]
  have c : cu st st.length = cost st := by unfold cu; rw [List.take_length]
  have up := Dv_upper (st := st) st.length (Nat.le_refl _)
  obtain ⟨t, h1, h2, h3, h4⟩ := Dv_lower hg hf (wb st).length (wa st).length (Nat.le_refl _) (Nat.le_refl _)
  have := gap_le hg h1 (Nat.le_refl _)
  rw [x, y, c] at up this
  rw [e]
  lia
end Mine
end

/-! P3 -/
section
namespace Mine
open Step
noncomputable def Fit (st : List Step) : Prop := st.Pairwise Far ∧ ∀ s ∈ st, s.Ok
theorem Fit.tail {s : Step} {r : List Step} (h : Fit (s :: r)) : Fit r := ⟨(List.pairwise_cons.mp h.1).2, fun t ht => h.2 t (List.mem_cons_of_mem _ ht)⟩
theorem mem_wa {x : Nat} : ∀ (st : List Step), x ∈ wa st → ∃ s ∈ st, x ∈ s.a
  | [], h => by simp [wa] at h
  | s :: r, h => by
    rcases List.mem_append.mp h with q | q
    · exact ⟨s, by simp, q⟩
    · obtain ⟨t, h1, h2⟩ := mem_wa r q
      exact ⟨t, by simp [h1], h2⟩
theorem mem_wb {x : Nat} : ∀ (st : List Step), x ∈ wb st → ∃ s ∈ st, x ∈ s.b
  | [], h => by simp [wb] at h
  | s :: r, h => by
    rcases List.mem_append.mp h with q | q
    · exact ⟨s, by simp, q⟩
    · obtain ⟨t, h1, h2⟩ := mem_wb r q
      exact ⟨t, by simp [h1], h2⟩
/-- behind a step that is no match the words part at once -/
theorem part_head {s : Step} {r : List Step} (h : Fit (s :: r)) (hs : s.isMat = false) : lcp (wa (s :: r)) (wb (s :: r)) = 0 ∧ wa (s :: r) ≠ wb (s :: r) := by
  have key : ∀ (a b : List Nat), (∀ x y, a.head? = some x → b.head? = some y → x ≠ y) → (a ≠ [] ∨ b ≠ []) → lcp a b = 0 ∧ a ≠ b := fun a b h1 h2 => by
    cases a with
    | nil =>
      cases b with
      | nil => simp at h2
      | cons y b => simp [lcp]
    | cons x a =>
      cases b with
      | nil => simp [lcp]
      | cons y b =>
        have := h1 x y rfl rfl
        simp [lcp, this]
  have hf := (List.pairwise_cons.mp h.1).1
  cases s with
  | mat c => cases hs
  | sub x y =>
    have hne : x ≠ y := h.2 (sub x y) (by simp)
    exact key _ _ (fun x' y' h1 h2 => by cases h1; cases h2; exact hne) (.inl (by simp [wa, Step.a]))
  | del x =>
    refine key _ _ (fun x' y' h1 h2 e => ?_) (.inl (by simp [wa, Step.a]))
    cases h1
    subst e
    have : x ∈ wb r := by
      have : x ∈ wb (Step.del x :: r) := List.mem_of_mem_head? (by rw [h2]; rfl)
      simpa [wb, Step.b] using this
    obtain ⟨t, ht, hx⟩ := mem_wb r this
    have := (hf t ht).1 x (by simp [Step.a]) x hx
    rw [subC_self] at this; cases this
  | ins y =>
    refine key _ _ (fun x' y' h1 h2 e => ?_) (.inr (by simp [wb, Step.b]))
    cases h2
    subst e
    have : x' ∈ wa r := by
      have : x' ∈ wa (Step.ins x' :: r) := List.mem_of_mem_head? (by rw [h1]; rfl)
      simpa [wa, Step.a] using this
    obtain ⟨t, ht, hx⟩ := mem_wa r this
    have := (hf t ht).2 x' hx x' (by simp [Step.b])
    rw [subC_self] at this; cases this
noncomputable def lm : List Step → Nat
  | s :: r => if s.isMat then lm r + 1 else 0
  | [] => 0
noncomputable def core : List Step → List Step
  | s :: r => if s.isMat then core r else s :: r
  | [] => []
theorem core_head : ∀ (st : List Step), core st = [] ∨ ∃ s r, core st = s :: r ∧ s.isMat = false
  | [] => .inl rfl
  | s :: r => by
    cases e : s.isMat with
    | true => have := core_head r; simpa [core, e] using this
    | false => right; exact ⟨s, r, by simp [core, e], e⟩
theorem core_split : ∀ (st : List Step), ∃ p, st = p ++ core st ∧ cost p = 0 ∧ (wa p).length = lm st ∧ (wb p).length = lm st
  | [] => ⟨[], rfl, rfl, rfl, rfl⟩
  | s :: r => by
    cases e : s.isMat with
    | false => exact ⟨[], by simp [core, e], rfl, by simp [lm, e, wa], by simp [lm, e, wb]⟩
    | true =>
      obtain ⟨p, h1, h2, h3, h4⟩ := core_split r
      cases s <;> first | (cases e; done) | skip
      rename_i c
      refine ⟨mat c :: p, ?_, ?_, ?_, ?_⟩
      · simp only [core, Step.isMat, if_true, List.cons_append, ← h1]
      · simp [cost, Step.cost, h2]
      · simp [wa, Step.a, lm, Step.isMat]; lia
      · simp [wb, Step.b, lm, Step.isMat]; lia
theorem lcp_steps : ∀ (st : List Step), Fit st → lcp (wa st) (wb st) = lm st
  | [], _ => rfl
  | s :: r, h => by
    cases e : s.isMat with
    | false => rw [(part_head h e).1]; simp [lm, e]
    | true =>
      cases s <;> first | (cases e; done) | skip
      have := lcp_steps r h.tail
      simp [wa, wb, Step.a, Step.b, lcp, lm, Step.isMat, this]
theorem same_cost : ∀ (st : List Step), Fit st → wa st = wb st → cost st = 0
  | [], _, _ => rfl
  | s :: r, h, e => by
    cases q : s.isMat with
    | false => exact absurd e (part_head h q).2
    | true =>
      cases s <;> first | (cases q; done) | skip
      have := same_cost r h.tail (by simpa [wa, wb, Step.a, Step.b] using e)
      simp [cost, Step.cost, this]
theorem drop_core (st : List Step) : (wa st).drop (lm st) = wa (core st) ∧ (wb st).drop (lm st) = wb (core st) := by
  obtain ⟨p, h1, h2, h3, h4⟩ := core_split st
  constructor
  · have e : wa st = wa p ++ wa (core st) := by conv => lhs; rw [h1, wa_app]
    rw [e, ← h3, List.drop_left]
  · have e : wb st = wb p ++ wb (core st) := by conv => lhs; rw [h1, wb_app]
    rw [e, ← h4, List.drop_left]
theorem wa_rev (st : List Step) : wa st.reverse = (wa st).reverse := by
  induction st with
  | nil => rfl
  | cons s r ih => rw [List.reverse_cons, wa_app, ih]; cases s <;> simp [wa, Step.a]
theorem wb_rev (st : List Step) : wb st.reverse = (wb st).reverse := by
  induction st with
  | nil => rfl
  | cons s r ih => rw [List.reverse_cons, wb_app, ih]; cases s <;> simp [wb, Step.b]
theorem cost_rev (st : List Step) : cost st.reverse = cost st := by
  induction st with
  | nil => rfl
  | cons s r ih => rw [List.reverse_cons, cost_app, ih]; simp [cost]; lia
theorem Fit.rev {st : List Step} (h : Fit st) : Fit st.reverse := ⟨List.pairwise_reverse.mpr (h.1.imp fun h => h.symm), fun s hs => h.2 s (List.mem_reverse.mp hs)⟩
theorem Fit.right {p q : List Step} (h : Fit (p ++ q)) : Fit q := ⟨(List.pairwise_append.mp h.1).2.1, fun s hs => h.2 s (List.mem_append_right _ hs)⟩
theorem Fit.core {st : List Step} (h : Fit st) : Fit (core st) := by
  obtain ⟨p, h1, _⟩ := core_split st
  rw [h1] at h
  exact h.right
theorem take_core (st : List Step) : (wa st).take ((wa st).length - lm st.reverse) = wa (core st.reverse).reverse ∧ (wb st).take ((wb st).length - lm st.reverse) = wb (core st.reverse).reverse := by
  have h := drop_core st.reverse
  rw [wa_rev, wb_rev] at h
  rw [wa_rev, wb_rev, ← h.1, ← h.2]
  constructor
  · rw [List.drop_reverse, List.reverse_reverse]
  · rw [List.drop_reverse, List.reverse_reverse]
theorem only_gaps : ∀ (st : List Step), (wa st = [] ∨ wb st = []) → cost st = 2 * ((wa st).length + (wb st).length)
  | [], _ => rfl
  | s :: r, h => by
    have := only_gaps r (by rcases h with h | h <;> simp [wa, wb] at h <;> simp [h])
    cases s with
    | mat c => simp [wa, wb, Step.a, Step.b] at h
    | sub x y => simp [wa, wb, Step.a, Step.b] at h
    | del x => simp [cost, Step.cost, wa, wb, Step.a, Step.b, this]; lia
    | ins y => simp [cost, Step.cost, wa, wb, Step.a, Step.b, this]; lia
theorem levR_steps {st : List Step} (h : Fit st) (hg : good st) : levR (wa st) (wb st) = cost st := by
  unfold levR
  by_cases q : wa st = wb st
  · rw [if_pos q, same_cost st h q]
  · rw [if_neg q]
    simp only []
    rw [lcp_steps st h, (drop_core st).1, (drop_core st).2]
    have hc := h.core
    have hq : lcs (wa (core st)) (wb (core st)) = lm (core st).reverse := by
      unfold lcs
      rw [← wa_rev, ← wb_rev, lcp_steps _ hc.rev]
    rw [hq, (take_core (core st)).1, (take_core (core st)).2]
    obtain ⟨p, h1, h2, _⟩ := core_split st
    obtain ⟨p', h1', h2', _⟩ := core_split (core st).reverse
    have e0 : core st = (core (core st).reverse).reverse ++ p'.reverse := by
      rw [← List.reverse_append, ← h1', List.reverse_reverse]
    have ec : cost st = cost (core (core st).reverse).reverse := by
      conv => lhs; rw [h1, cost_app, h2, e0, cost_app, cost_rev p', h2']
      lia
    have hf2 : Fit (core (core st).reverse).reverse := hc.rev.core.rev
    have hg2 : good (core (core st).reverse).reverse := by
      rw [h1] at hg
      have := (good_app _ _ hg).2
      rw [e0] at this
      exact (good_app _ _ this).1
    rw [ec]
    generalize (core (core st).reverse).reverse = cs at hf2 hg2
    by_cases q' : wa cs = [] ∨ wb cs = []
    · rw [if_pos q', only_gaps cs q']
    · rw [if_neg q']
      by_cases q'' : (wb cs).length < (wa cs).length
      · rw [if_pos q'', ← wa_swap, ← wb_swap cs, ← cost_swap cs]
        exact dp_steps (good_swap _ hg2) (List.pairwise_map.mpr (hf2.1.imp fun h => h.swap)) (by rw [wa_swap]; exact fun e => q' (.inr e))
      · rw [if_neg q'']
        exact dp_steps hg2 hf2.1 fun e => q' (.inl e)
end Mine
end

/-! P7 -/
section
namespace Mine
/-! the signs without a small form of their own -/
theorem shifted_none {lo hi c : Nat} (h1 : lo ≤ c) (h2 : c ≤ hi) : ∀ (one : List (Nat × Nat × Nat)), (one.all fun e => decide (e.2.1 < lo) || decide (hi < e.1)) = true → Unicode.shifted one c = none
  | [], _ => rfl
  | (a, b, t) :: r, h => by
    simp only [List.all_cons, Bool.and_eq_true, Bool.or_eq_true, decide_eq_true_eq] at h
    unfold Unicode.shifted
    by_cases q : c < a
    · rw [if_pos q]
    · rw [if_neg q, if_neg (by lia)]
      exact shifted_none h1 h2 r h.2
theorem lookup_far {lo hi c : Nat} (h1 : lo ≤ c) (h2 : c ≤ hi) : ∀ (l : List (Nat × List Nat)), (l.all fun e => decide (e.1 < lo) || decide (hi < e.1)) = true → l.lookup c = none
  | [], _ => rfl
  | (a, b) :: r, h => by
    simp only [List.all_cons, Bool.and_eq_true, Bool.or_eq_true, decide_eq_true_eq] at h
    have : (c == a) = false := by simp; lia
    rw [List.lookup_cons, this]
    exact lookup_far h1 h2 r h.2
theorem lower_far {lo hi c : Nat} (h1 : lo ≤ c) (h2 : c ≤ hi) (h3 : 1000 ≤ lo) (ha : (UnicodeData.oneLower.all fun e => decide (e.2.1 < lo) || decide (hi < e.1)) = true) (hb : (UnicodeData.severalLower.all fun e => decide (e.1 < lo) || decide (hi < e.1)) = true) : Txt.lower (S [c]) = S [c] := by
  unfold Txt.lower
  rw [placed_single (S [c]) _ id fun i d hd => ?_]
  · simp [S]
  · have hc : d = c := by
      have := List.mem_of_getElem? hd
      simpa [S] using this
    subst hc
    unfold Unicode.lowerAt
    have hc' : (S [d]).cps[i]? = some d := by simpa using hd
    rw [hc']
    have hne : (d == 0x3A3) = false := by rw [beq_eq_false_iff_ne]; lia
    simp only [hne, Bool.false_and, Bool.false_eq_true, if_false]
    unfold Unicode.lowerOf Unicode.image
    rw [lookup_far h1 h2 _ hb, shifted_none h1 h2 _ ha]; rfl
theorem lower_sign {c : Nat} (h1 : 65024 ≤ c) (h2 : c ≤ 65039) : Txt.lower (S [c]) = S [c] := lower_far h1 h2 (by decide) (by decide +kernel) (by decide +kernel)
theorem lower_math {c : Nat} (h1 : 119808 ≤ c) (h2 : c ≤ 119967) : Txt.lower (S [c]) = S [c] := lower_far h1 h2 (by decide) (by decide +kernel) (by decide +kernel)
/-- a sign of row k -/
structure Of (k c : Nat) : Prop where
  form : (∃ l, 5 * (k - 1) ≤ l ∧ l < 5 * k ∧ (c = 97 + l ∨ c = 65 + l ∨ c = 119808 + l ∨ c = 119860 + l ∨ c = 119912 + l)) ∨ c = 65024 + k ∨ c = 65029 + k ∨ c = 65034 + k
noncomputable def low2 (c : Nat) : Nat := if c < 90 then c + 32 else c
theorem letter_low {l : Nat} (h : l < 25) : isLetter (97 + l) = true ∧ isLetter (65 + l) = true := by
  unfold isLetter
  simp only [Bool.or_eq_true, Bool.and_eq_true, decide_eq_true_eq]
  lia
theorem low2_small {c : Nat} (h : isLetter c = true) (hc : c < 122) : Txt.lower (S [c]) = S [low2 c] := by
  rw [low_ok c h hc]
  unfold low low2
  by_cases q : c < 90
  · rw [if_pos q, if_pos q]
  · rw [if_neg q, if_neg q, if_pos hc]
theorem low2_big {c : Nat} (h : 90 ≤ c) (e : Txt.lower (S [c]) = S [c]) : Txt.lower (S [c]) = S [low2 c] := by
  unfold low2
  rw [e, if_neg (Nat.not_lt.mpr h)]
theorem Of.lower {k c : Nat} (h : Of k c) (h0 : 0 < k) (hk : k ≤ 5) : Txt.lower (S [c]) = S [low2 c] := by
  rcases h.form with ⟨l, h1, h2, h3⟩ | h3
  · have hl : l < 25 := by clear h3 h1 h; lia
    clear h1 h2 h
    rcases h3 with rfl | rfl | rfl | rfl | rfl
    · exact low2_small (letter_low hl).1 (by lia)
    · exact low2_small (letter_low hl).2 (by lia)
    · exact low2_big (by lia) (lower_math (by lia) (by lia))
    · exact low2_big (by lia) (lower_math (by lia) (by lia))
    · exact low2_big (by lia) (lower_math (by lia) (by lia))
  · clear h
    rcases h3 with rfl | rfl | rfl
    · exact low2_big (by lia) (lower_sign (by lia) (by lia))
    · exact low2_big (by lia) (lower_sign (by lia) (by lia))
    · exact low2_big (by lia) (lower_sign (by lia) (by lia))
/-- the row that a sign belongs to -/
noncomputable def cls (c : Nat) : Nat := if c < 123 then (c - 97) / 5 else if c < 100000 then (c - 65025) % 5 else (c - 119808) % 52 / 5
theorem cls_small {k l : Nat} (h1 : 5 * k ≤ l) (h2 : l < 5 * k + 5) (h3 : l < 25) : cls (97 + l) = k := by
  unfold cls; rw [if_pos (by lia)]; lia
theorem cls_sign {k o : Nat} (h1 : k < 5) (h2 : o < 3) : cls (65025 + k + 5 * o) = k := by
  unfold cls; rw [if_neg (by lia), if_pos (by lia)]; lia
theorem cls_math {k l o : Nat} (h1 : 5 * k ≤ l) (h2 : l < 5 * k + 5) (h3 : l < 25) : cls (119808 + 52 * o + l) = k := by
  unfold cls; rw [if_neg (by lia), if_neg (by lia), show 119808 + 52 * o + l - 119808 = 52 * o + l by lia, Nat.mul_add_mod, Nat.mod_eq_of_lt (by lia)]; lia
theorem low2_hi {c : Nat} (h : 90 ≤ c) : low2 c = c := by unfold low2; rw [if_neg (Nat.not_lt.mpr h)]
theorem Of.cls {m c : Nat} (h : Of (m + 1) c) (hk : m < 5) : cls (low2 c) = m := by
  rcases h.form with ⟨l, h1, h2, h3⟩ | h3
  · have a : 5 * m ≤ l := h1
    have b : l < 5 * m + 5 := h2
    have hl : l < 25 := by clear h3 h1 h h2; lia
    clear h1 h2 h
    rcases h3 with rfl | rfl | rfl | rfl | rfl
    · rw [low2_hi (by lia)]; exact cls_small a b hl
    · unfold low2; rw [if_pos (by lia), show 65 + l + 32 = 97 + l by lia]; exact cls_small a b hl
    · rw [low2_hi (by lia)]; exact cls_math (o := 0) a b hl
    · rw [low2_hi (by lia)]; exact cls_math (o := 1) a b hl
    · rw [low2_hi (by lia)]; exact cls_math (o := 2) a b hl
  · clear h
    rcases h3 with rfl | rfl | rfl
    · rw [low2_hi (by lia), show 65024 + (m + 1) = 65025 + m + 5 * 0 by lia]; exact cls_sign hk (by decide)
    · rw [low2_hi (by lia), show 65029 + (m + 1) = 65025 + m + 5 * 1 by lia]; exact cls_sign hk (by decide)
    · rw [low2_hi (by lia), show 65034 + (m + 1) = 65025 + m + 5 * 2 by lia]; exact cls_sign hk (by decide)
theorem low2_ne {k m x y : Nat} (hx : Of k x) (hy : Of m y) (h0 : 0 < k) (hk : k ≤ 5) (h0' : 0 < m) (hm : m ≤ 5) (hkm : k ≠ m) : low2 y ≠ low2 x := fun e => by
  cases k with
  | zero => exact absurd h0 (Nat.lt_irrefl _)
  | succ k =>
    cases m with
    | zero => exact absurd h0' (Nat.lt_irrefl _)
    | succ m =>
      refine hkm ?_
      rw [← hx.cls hk, ← hy.cls hm, e]
theorem Of.far {k m x y : Nat} (hx : Of k x) (hy : Of m y) (h0 : 0 < k) (hk : k ≤ 5) (h0' : 0 < m) (hm : m ≤ 5) (hkm : k ≠ m) : subC (S [y]) (S [x]) = 2 := by
  have e := low2_ne hx hy h0 hk h0' hm hkm
  unfold subC
  rw [hx.lower h0 hk, hy.lower h0' hm, S_beq, S_beq, decide_eq_false (by simpa using fun q => e (by rw [q])), decide_eq_false (by simpa using e)]
  rfl
theorem subC_of {k x y : Nat} (hx : Of k x) (hy : Of k y) (h0 : 0 < k) (hk : k ≤ 5) : subC (S [y]) (S [x]) = if y = x then 0 else if low2 y = low2 x then 1 else 2 := by
  unfold subC
  rw [hx.lower h0 hk, hy.lower h0 hk, S_beq, S_beq]
  simp
/-! the words' steps -/
noncomputable def blk : List Nat → List Nat → List Step
  | [x], [y] => [if x = y then .mat x else .sub x y]
  | [x], [_, v] => [.mat x, .ins v]
  | [x, v], [_] => [.mat x, .del v]
  | [x, v], [_, _] => [.mat x, .mat v]
  | _, _ => []
/-- the block of a row, marked in the one word or not, in the other or not -/
structure BlkOk (k : Nat) (s t : List Nat) (c : Int) : Prop where
  a : wa (blk s t) = s
  b : wb (blk s t) = t
  cost : cost (blk s t) = c
  fit : Fit (blk s t)
  good : good (blk s t)
  head : ∀ x, (blk s t).head? = some x → x.isGap = false
  signs : ∀ x ∈ blk s t, (∀ c ∈ x.a, Of k c) ∧ ∀ c ∈ x.b, Of k c
noncomputable def shown (r : Row) (b : Bool) : List Nat := if b then r.mark else r.small
theorem blk_one {k x y : Nat} {c : Int} (hx : Of k x) (hy : Of k y) (hc : c = if x = y then 0 else subC (S [y]) (S [x])) : BlkOk k [x] [y] c := by
  by_cases q : x = y
  · subst q
    rw [if_pos rfl] at hc
    have e : blk [x] [x] = [.mat x] := by show [if x = x then Step.mat x else .sub x x] = _; rw [if_pos rfl]
    exact ⟨by rw [e]; rfl, by rw [e]; rfl, by rw [e, hc]; rfl, by rw [e]; exact ⟨List.pairwise_singleton _ _, fun s hs => by rw [List.mem_singleton.mp hs]; trivial⟩, by rw [e]; exact ⟨fun t ht => (nomatch ht), trivial⟩, by rw [e]; intro x hx; cases hx; rfl, by
      rw [e]; intro s hs; rw [List.mem_singleton.mp hs]
      exact ⟨fun c hc => by rw [List.mem_singleton.mp hc]; exact hx, fun c hc => by rw [List.mem_singleton.mp hc]; exact hx⟩⟩
  · rw [if_neg q] at hc
    have e : blk [x] [y] = [.sub x y] := by show [if x = y then Step.mat x else .sub x y] = _; rw [if_neg q]
    exact ⟨by rw [e]; rfl, by rw [e]; rfl, by rw [e, hc]; simp [Mine.cost, Step.cost], by rw [e]; exact ⟨List.pairwise_singleton _ _, fun s hs => by rw [List.mem_singleton.mp hs]; exact q⟩, by rw [e]; exact ⟨fun t ht => (nomatch ht), trivial⟩, by rw [e]; intro x hx; cases hx; rfl, by
      rw [e]; intro s hs; rw [List.mem_singleton.mp hs]
      exact ⟨fun c hc => by rw [List.mem_singleton.mp hc]; exact hx, fun c hc => by rw [List.mem_singleton.mp hc]; exact hy⟩⟩
theorem blk_two {k x v : Nat} (hx : Of k x) (hv : Of k v) (h : subC (S [v]) (S [x]) = 2) (s : Step) (hs : s = .mat v ∨ s = .ins v ∨ s = .del v) : Fit [.mat x, s] ∧ good [.mat x, s] ∧ (∀ t, [Step.mat x, s].head? = some t → t.isGap = false) ∧ ∀ t ∈ [Step.mat x, s], (∀ c ∈ t.a, Of k c) ∧ ∀ c ∈ t.b, Of k c := by
  have h' : subC (S [x]) (S [v]) = 2 := by rw [subC_comm]; exact h
  refine ⟨⟨List.pairwise_cons.mpr ⟨fun t ht => ?_, List.pairwise_singleton _ _⟩, fun t ht => ?_⟩, ⟨fun t _ _ => rfl, fun t ht => (nomatch ht), trivial⟩, fun t ht => by cases ht; rfl, fun t ht => ?_⟩
  · rw [List.mem_singleton.mp ht]
    rcases hs with rfl | rfl | rfl
    · exact ⟨fun a ha b hb => by rw [List.mem_singleton.mp ha, List.mem_singleton.mp hb]; exact h, fun a ha b hb => by rw [List.mem_singleton.mp ha, List.mem_singleton.mp hb]; exact h'⟩
    · exact ⟨fun a ha b hb => by rw [List.mem_singleton.mp ha, List.mem_singleton.mp hb]; exact h, fun a ha b hb => nomatch ha⟩
    · exact ⟨fun a ha b hb => (nomatch hb), fun a ha b hb => by rw [List.mem_singleton.mp ha, List.mem_singleton.mp hb]; exact h'⟩
  · rcases List.mem_cons.mp ht with rfl | ht
    · trivial
    · rw [List.mem_singleton.mp ht]
      rcases hs with rfl | rfl | rfl <;> trivial
  · rcases List.mem_cons.mp ht with rfl | ht
    · exact ⟨fun c hc => by rw [List.mem_singleton.mp hc]; exact hx, fun c hc => by rw [List.mem_singleton.mp hc]; exact hx⟩
    · rw [List.mem_singleton.mp ht]
      rcases hs with rfl | rfl | rfl
      · exact ⟨fun c hc => by rw [List.mem_singleton.mp hc]; exact hv, fun c hc => by rw [List.mem_singleton.mp hc]; exact hv⟩
      · exact ⟨fun c hc => (nomatch hc), fun c hc => by rw [List.mem_singleton.mp hc]; exact hv⟩
      · exact ⟨fun c hc => by rw [List.mem_singleton.mp hc]; exact hv, fun c hc => nomatch hc⟩
theorem row_blk {k : Nat} {r : Row} (h : RowFit k r) (h0 : 0 < k) (hk : k ≤ 5) (p q : Bool) : BlkOk k (shown r p) (shown r q) (if p = q then 0 else r.price) := by
  obtain ⟨_, kind, l, o, h1, h2, h3, h4, h5, h6, h7⟩ := h.row h0
  have os : Of k (97 + l) := ⟨.inl ⟨l, h2, h3, .inl rfl⟩⟩
  have oc : Of k (65 + l) := ⟨.inl ⟨l, h2, h3, .inr (.inl rfl)⟩⟩
  have om : Of k (119808 + 52 * o + l) := ⟨.inl ⟨l, h2, h3, by lia⟩⟩
  have ov : Of k (65024 + k + 5 * o) := ⟨.inr (by lia)⟩
  unfold shown
  rw [h5, h6, h7]
  unfold markOf
  obtain rfl | rfl | rfl : kind = 0 ∨ kind = 1 ∨ kind = 2 := by lia
  · have c1 := subC_of oc os h0 hk
    have c2 := subC_of os oc h0 hk
    have e : low2 (97 + l) = low2 (65 + l) := by unfold low2; split <;> split <;> lia
    rw [if_neg (by lia), if_pos e] at c1
    rw [if_neg (by lia), if_pos e.symm] at c2
    cases p <;> cases q
    · exact blk_one os os (by simp)
    · exact blk_one os oc (by rw [c2, if_neg (show ¬ 97 + l = 65 + l by lia)]; rfl)
    · exact blk_one oc os (by rw [c1, if_neg (show ¬ 65 + l = 97 + l by lia)]; rfl)
    · exact blk_one oc oc (by simp)
  · have c1 := subC_of om os h0 hk
    have c2 := subC_of os om h0 hk
    have e : low2 (97 + l) ≠ low2 (119808 + 52 * o + l) := by unfold low2; split <;> split <;> lia
    rw [if_neg (by lia), if_neg e] at c1
    rw [if_neg (by lia), if_neg e.symm] at c2
    cases p <;> cases q
    · exact blk_one os os (by simp)
    · exact blk_one os om (by rw [c2, if_neg (show ¬ 97 + l = 119808 + 52 * o + l by lia)]; rfl)
    · exact blk_one om os (by rw [c1, if_neg (show ¬ 119808 + 52 * o + l = 97 + l by lia)]; rfl)
    · exact blk_one om om (by simp)
  · have c1 := subC_of os ov h0 hk
    have e : low2 (65024 + k + 5 * o) ≠ low2 (97 + l) := by unfold low2; split <;> split <;> lia
    rw [if_neg (by lia), if_neg e] at c1
    cases p <;> cases q
    · exact blk_one os os (by simp)
    · obtain ⟨a, b, c, d⟩ := blk_two os ov c1 (.ins (65024 + k + 5 * o)) (.inr (.inl rfl))
      exact ⟨rfl, rfl, rfl, a, b, c, d⟩
    · obtain ⟨a, b, c, d⟩ := blk_two os ov c1 (.del (65024 + k + 5 * o)) (.inr (.inr rfl))
      exact ⟨rfl, rfl, rfl, a, b, c, d⟩
    · obtain ⟨a, b, c, d⟩ := blk_two os ov c1 (.mat (65024 + k + 5 * o)) (.inl rfl)
      exact ⟨rfl, rfl, rfl, a, b, c, d⟩
end Mine
end

/-! P8 -/
section
namespace Mine
theorem wa_flat {α : Type} {f : α → List Step} {g : α → List Nat} : ∀ (l : List α), (∀ x ∈ l, wa (f x) = g x) → wa (l.flatMap f) = (l.map g).flatten
  | [], _ => rfl
  | x :: l, h => by
    rw [List.flatMap_cons, wa_app, h x List.mem_cons_self, wa_flat l fun y hy => h y (List.mem_cons_of_mem _ hy)]; rfl
theorem wb_flat {α : Type} {f : α → List Step} {g : α → List Nat} : ∀ (l : List α), (∀ x ∈ l, wb (f x) = g x) → wb (l.flatMap f) = (l.map g).flatten
  | [], _ => rfl
  | x :: l, h => by
    rw [List.flatMap_cons, wb_app, h x List.mem_cons_self, wb_flat l fun y hy => h y (List.mem_cons_of_mem _ hy)]; rfl
theorem cost_flat {α : Type} {f : α → List Step} {g : α → Int} : ∀ (l : List α), (∀ x ∈ l, cost (f x) = g x) → cost (l.flatMap f) = (l.map g).sum
  | [], _ => rfl
  | x :: l, h => by
    rw [List.flatMap_cons, cost_app, h x List.mem_cons_self, cost_flat l fun y hy => h y (List.mem_cons_of_mem _ hy)]; simp
theorem good_join : ∀ (p q : List Step), good p → good q → (∀ t, q.head? = some t → t.isGap = false) → good (p ++ q)
  | [], q, _, h, _ => h
  | s :: p, q, ⟨h1, h2⟩, h3, h4 => by
    refine ⟨fun t ht hg => ?_, good_join p q h2 h3 h4⟩
    cases p with
    | nil => rw [h4 t ht] at hg; cases hg
    | cons t' p => exact h1 t ht hg
theorem good_flat {α : Type} {f : α → List Step} : ∀ (l : List α), (∀ x ∈ l, good (f x) ∧ ∀ t, (f x).head? = some t → t.isGap = false) → good (l.flatMap f) ∧ ∀ t, (l.flatMap f).head? = some t → t.isGap = false
  | [], _ => ⟨trivial, fun t ht => (nomatch ht)⟩
  | x :: l, h => by
    have hx := h x List.mem_cons_self
    have ih := good_flat l fun y hy => h y (List.mem_cons_of_mem _ hy)
    rw [List.flatMap_cons]
    refine ⟨good_join _ _ hx.1 ih.1 ih.2, fun t ht => ?_⟩
    cases e : f x with
    | nil => rw [e] at ht; exact ih.2 t ht
    | cons s r => rw [e] at ht; exact hx.2 t (by rw [e]; exact ht)
theorem fit_flat {α : Type} {f : α → List Step} (l : List α) (h : ∀ x ∈ l, Fit (f x)) (hp : l.Pairwise fun x y => ∀ s ∈ f x, ∀ t ∈ f y, Step.Far s t) : Fit (l.flatMap f) :=
  ⟨List.pairwise_flatMap.mpr ⟨fun x hx => (h x hx).1, hp⟩, fun s hs => by
    obtain ⟨x, hx, hs⟩ := List.mem_flatMap.mp hs
    exact (h x hx).2 s hs⟩
/-! the words of a page -/
noncomputable def shK (rs : List Row) (rp : List Nat) (k : Nat) : List Nat := if k ∈ rp then markAt rs k else smallAt rs k
theorem shK_row {rs : List Row} {rp : List Nat} {k : Nat} (hk : k < rs.length) : shK rs rp k = shown rs[k] (decide (k ∈ rp)) := by
  unfold shK shown markAt smallAt
  rw [List.getElem?_eq_getElem hk]
  by_cases q : k ∈ rp <;> simp [q]
noncomputable def priceK (rs : List Row) (k : Nat) : Int := (pricesR rs)[k]?.getD 0
theorem priceK_row {rs : List Row} {k : Nat} (hk : k < rs.length) : priceK rs k = rs[k].price := by
  unfold priceK pricesR
  rw [List.getElem?_map, List.getElem?_eq_getElem hk]; rfl
theorem priceK_le {rs : List Row} (h : Page rs) (k : Nat) : 0 ≤ priceK rs k ∧ priceK rs k ≤ 2 ∧ (0 < k → k < rs.length → priceK rs k = 1 ∨ priceK rs k = 2) ∧ priceK rs 0 = 0 := by
  have hz : priceK rs 0 = 0 := by
    rw [priceK_row h.pos, (h.fit 0 _ (List.getElem?_eq_getElem h.pos)).zero rfl]
  by_cases hk : k < rs.length
  · by_cases h0 : k = 0
    · subst h0; lia
    · obtain ⟨_, kind, l, o, _, _, _, _, _, _, e⟩ := (h.fit k _ (List.getElem?_eq_getElem hk)).row (by lia)
      rw [priceK_row hk, e]
      split <;> exact ⟨by lia, by lia, fun _ _ => by lia, hz⟩
  · have : priceK rs k = 0 := by
      unfold priceK
      rw [List.getElem?_eq_none (by simp [pricesR]; lia)]; rfl
    exact ⟨by lia, by lia, fun _ _ => by lia, hz⟩
/-- the prices of the rows on the one pile alone -/
noncomputable def apart (rs : List Row) (rp rq : List Nat) (m : Nat) : Int := if decide (m + 1 ∈ rp) = decide (m + 1 ∈ rq) then 0 else priceK rs (m + 1)
noncomputable def dW (rs : List Row) (i j : Nat) : Int := sumN (apart rs (pileR rs (i + 1)) (pileR rs (j + 1))) (rs.length - 1)
theorem page_blk {rs : List Row} (h : Page rs) (rp rq : List Nat) {m : Nat} (hm : m < rs.length - 1) : BlkOk (m + 1) (shK rs rp (m + 1)) (shK rs rq (m + 1)) (apart rs rp rq m) := by
  have hk : m + 1 < rs.length := by lia
  have := h.most
  rw [shK_row hk, shK_row hk]
  unfold apart
  rw [priceK_row hk]
  exact row_blk (h.fit _ _ (List.getElem?_eq_getElem hk)) (by lia) (by lia) _ _
theorem lev_words {rs : List Row} (h : Page rs) (rp rq : List Nat) : levR (wordR rs rp) (wordR rs rq) = sumN (apart rs rp rq) (rs.length - 1) := by
  have hb : ∀ m ∈ List.range (rs.length - 1), BlkOk (m + 1) (shK rs rp (m + 1)) (shK rs rq (m + 1)) (apart rs rp rq m) := fun m hm => page_blk h rp rq (List.mem_range.mp hm)
  have ea := wa_flat (f := fun m => blk (shK rs rp (m + 1)) (shK rs rq (m + 1))) (g := fun m => shK rs rp (m + 1)) (List.range (rs.length - 1)) fun m hm => (hb m hm).a
  have eb := wb_flat (f := fun m => blk (shK rs rp (m + 1)) (shK rs rq (m + 1))) (g := fun m => shK rs rq (m + 1)) (List.range (rs.length - 1)) fun m hm => (hb m hm).b
  have ec := cost_flat (f := fun m => blk (shK rs rp (m + 1)) (shK rs rq (m + 1))) (g := apart rs rp rq) (List.range (rs.length - 1)) fun m hm => (hb m hm).cost
  have hg := (good_flat (f := fun m => blk (shK rs rp (m + 1)) (shK rs rq (m + 1))) (List.range (rs.length - 1)) fun m hm => ⟨(hb m hm).good, (hb m hm).head⟩).1
  have hf := fit_flat (f := fun m => blk (shK rs rp (m + 1)) (shK rs rq (m + 1))) (List.range (rs.length - 1)) (fun m hm => (hb m hm).fit) ?_
  · have := levR_steps hf hg
    rw [ea, eb, ec, sum_range] at this
    exact this
  · refine (List.Pairwise.and_mem.mp List.pairwise_lt_range).imp ?_
    rintro a b ⟨ha, hb', hab⟩ s hs t ht
    have la := List.mem_range.mp ha
    have lb := List.mem_range.mp hb'
    have hm := h.most
    have sa := (hb a ha).signs s hs
    have sb := (hb b hb').signs t ht
    exact ⟨fun x hx y hy => (sa.1 x hx).far (sb.2 y hy) (by lia) (by lia) (by lia) (by lia) (by lia), fun x hx y hy => (sb.1 x hx).far (sa.2 y hy) (by lia) (by lia) (by lia) (by lia) (by lia)⟩
/-! prepared, each word is the bare row's -/
theorem plainR_app (a b : List Nat) : plainR (a ++ b) = plainR a ++ plainR b := by simp [plainR]
theorem plainR_flat : ∀ (l : List (List Nat)), plainR l.flatten = (l.map plainR).flatten
  | [] => rfl
  | a :: l => by rw [List.flatten_cons, plainR_app, plainR_flat l]; rfl
theorem plain_letter {c d : Nat} (h : isSign c = false) (hl : low c = d) : plainR [c] = [d] := by simp [plainR, h, hl]
theorem not_sign {c : Nat} (h : c < 65024 ∨ 65040 ≤ c) : isSign c = false := by
  unfold isSign
  simp only [Bool.and_eq_false_iff, decide_eq_false_iff_not]
  lia
theorem plain_row {k : Nat} {r : Row} (h : RowFit k r) (h0 : 0 < k) (hk : k ≤ 5) (b : Bool) : plainR (shown r b) = r.small := by
  obtain ⟨_, kind, l, o, h1, h2, h3, h4, h5, h6, h7⟩ := h.row h0
  have es : plainR [97 + l] = [97 + l] := plain_letter (not_sign (by lia)) (by unfold low; rw [if_neg (by lia), if_pos (by lia)])
  unfold shown
  rw [h5, h6]
  cases b with
  | false => exact es
  | true =>
    unfold markOf
    obtain rfl | rfl | rfl : kind = 0 ∨ kind = 1 ∨ kind = 2 := by lia
    · exact plain_letter (not_sign (by lia)) (by unfold low; rw [if_pos (by lia)]; lia)
    · exact plain_letter (not_sign (by lia)) (by unfold low; rw [if_neg (by lia), if_neg (by lia)]; lia)
    · have hs : isSign (65024 + k + 5 * o) = true := by
        unfold isSign
        simp only [Bool.and_eq_true, decide_eq_true_eq]
        lia
      have hn := not_sign (c := 97 + l) (.inl (by lia))
      show plainR ([97 + l] ++ [65024 + k + 5 * o]) = _
      rw [plainR_app, es]
      simp [plainR, hs]
theorem small_map (rs : List Row) : rs.map (·.small) = (List.range rs.length).map (smallAt rs) := by
  refine List.ext_getElem (by simp) fun i h1 h2 => ?_
  have hi : i < rs.length := by simpa using h1
  simp only [List.getElem_map, List.getElem_range]
  unfold smallAt
  rw [List.getElem?_eq_getElem hi]; rfl
theorem smallAll_eq {rs : List Row} (h : Page rs) : smallAll rs = ((List.range (rs.length - 1)).map fun m => smallAt rs (m + 1)).flatten := by
  unfold smallAll
  rw [small_map]
  have e : rs.length = (rs.length - 1) + 1 := by have := h.pos; lia
  have z : smallAt rs 0 = [] := by
    unfold smallAt
    rw [List.getElem?_eq_getElem h.pos, (h.fit 0 _ (List.getElem?_eq_getElem h.pos)).zero rfl]; rfl
  rw [e, List.range_succ_eq_map, List.map_cons, List.flatten_cons, z, List.nil_append, List.map_map, Nat.add_sub_cancel]
  rfl
theorem word_plain {rs : List Row} (h : Page rs) (rp : List Nat) : plainR (wordR rs rp) = smallAll rs := by
  have hm := h.most
  rw [smallAll_eq h]
  unfold wordR
  rw [plainR_flat, List.map_map]
  congr 1
  refine List.map_congr_left fun m hm' => ?_
  have hk : m + 1 < rs.length := by have := List.mem_range.mp hm'; lia
  have e : (if m + 1 ∈ rp then markAt rs (m + 1) else smallAt rs (m + 1)) = shown rs[m + 1] (decide (m + 1 ∈ rp)) := shK_row hk
  simp only [Function.comp_apply]
  rw [e, plain_row (h.fit _ _ (List.getElem?_eq_getElem hk)) (by lia) (by lia)]
  unfold smallAt
  rw [List.getElem?_eq_getElem hk]; rfl
theorem word_zero {rs : List Row} (h : Page rs) : wordR rs (pileR rs 1) = smallAll rs := by
  rw [smallAll_eq h]
  unfold wordR
  congr 1
theorem letter_math {l o : Nat} (h : l < 25) (ho : o < 3) : isLetter (119808 + 52 * o + l) = true := by
  unfold isLetter
  simp only [Bool.or_eq_true, Bool.and_eq_true, decide_eq_true_eq]
  refine .inr ⟨⟨by lia, by lia⟩, ?_⟩
  rw [show 119808 + 52 * o + l - 119808 = 52 * o + l by lia, Nat.mul_add_mod, Nat.mod_eq_of_lt (by lia)]
  exact h
theorem Of.known {k c : Nat} (h : Of k c) (h0 : 0 < k) (hk : k ≤ 5) : isLetter c = true ∨ isSign c = true := by
  rcases h.form with ⟨l, h1, h2, h3⟩ | h3
  · have hl : l < 25 := by clear h3 h1 h; lia
    left
    clear h1 h2 h
    rcases h3 with rfl | rfl | rfl | rfl | rfl
    · exact (letter_low hl).1
    · exact (letter_low hl).2
    · exact letter_math (o := 0) hl (by decide)
    · exact letter_math (o := 1) hl (by decide)
    · exact letter_math (o := 2) hl (by decide)
  · right
    clear h
    unfold isSign
    simp only [Bool.and_eq_true, decide_eq_true_eq]
    lia
theorem word_signs {rs : List Row} (h : Page rs) (rp : List Nat) : (wordR rs rp).length ≤ 10 ∧ ∀ c ∈ wordR rs rp, isLetter c = true ∨ isSign c = true := by
  have hm := h.most
  have hw : wordR rs rp = ((List.range (rs.length - 1)).map fun m => shK rs rp (m + 1)).flatten := rfl
  have hb : ∀ m ∈ List.range (rs.length - 1), BlkOk (m + 1) (shK rs rp (m + 1)) (shK rs rp (m + 1)) (apart rs rp rp m) := fun m hm => page_blk h rp rp (List.mem_range.mp hm)
  have hl : ∀ m ∈ List.range (rs.length - 1), (shK rs rp (m + 1)).length ≤ 2 := fun m hm' => by
    have hk : m + 1 < rs.length := by have := List.mem_range.mp hm'; lia
    obtain ⟨_, kind, l, o, h1, _, _, _, h5, h6, _⟩ := (h.fit _ _ (List.getElem?_eq_getElem hk)).row (by lia)
    rw [shK_row hk]
    unfold shown
    rw [h5, h6]
    unfold markOf
    obtain rfl | rfl | rfl : kind = 0 ∨ kind = 1 ∨ kind = 2 := by lia
    all_goals (split <;> simp)
  have len : ∀ (l : List Nat), (∀ m ∈ l, (shK rs rp (m + 1)).length ≤ 2) → ((l.map fun m => shK rs rp (m + 1)).flatten).length ≤ 2 * l.length := by
    intro l
    induction l with
    | nil => intro _; simp
    | cons a l ih =>
      intro hl
      have h1 := hl a List.mem_cons_self
      have h2 := ih fun m hm => hl m (List.mem_cons_of_mem _ hm)
      simp only [List.map_cons, List.flatten_cons, List.length_append, List.length_cons]
      lia
  refine ⟨?_, fun c hc => ?_⟩
  · rw [hw]
    have := len _ hl
    rw [List.length_range] at this
    lia
  · rw [hw] at hc
    obtain ⟨x, hx, hc⟩ := List.mem_flatten.mp hc
    obtain ⟨m, hm', rfl⟩ := List.mem_map.mp hx
    have b := hb m hm'
    rw [← b.a] at hc
    obtain ⟨s, hs, hc⟩ := mem_wa _ hc
    have := List.mem_range.mp hm'
    exact ((b.signs s hs).1 c hc).known (by lia) (by lia)
/-! the ways -/
theorem dW_comm (rs : List Row) (i j : Nat) : dW rs i j = dW rs j i := sumN_congr _ fun m _ => by
  unfold apart
  by_cases q : decide (m + 1 ∈ pileR rs (i + 1)) = decide (m + 1 ∈ pileR rs (j + 1))
  · rw [if_pos q, if_pos q.symm]
  · rw [if_neg q, if_neg fun e => q e.symm]
theorem dW_self (rs : List Row) (i : Nat) : dW rs i i = 0 := sumN_zero _ fun m _ => by
  unfold apart
  rw [if_pos rfl]
theorem dW_new {rs : List Row} (h : Page rs) {m i : Nat} (h0 : 0 < m) (hm : m < rs.length) (hi : i < m) : dW rs i m = dW rs i (parR (colsR (leadsS rs)) m) + priceK rs m := by
  have hp := (parR_facts h h0 hm).1
  have hpar := fun k => pile_par h (i := k) h0 hm
  unfold dW
  refine sumN_upd (p := m - 1) _ (by lia) fun k hk => ?_
  unfold apart
  by_cases q : k = m - 1
  · subst q
    rw [show m - 1 + 1 = m by lia]
    have n1 : decide (m ∈ pileR rs (i + 1)) = false := decide_eq_false fun e => by have := pile_le h (by lia) e; lia
    have n2 : decide (m ∈ pileR rs (parR (colsR (leadsS rs)) m + 1)) = false := decide_eq_false fun e => by have := pile_le h (by lia) e; lia
    have n3 : decide (m ∈ pileR rs (m + 1)) = true := decide_eq_true (pile_self rs m)
    rw [n1, n2, n3]
    simp
  · have e : decide (k + 1 ∈ pileR rs (m + 1)) = decide (k + 1 ∈ pileR rs (parR (colsR (leadsS rs)) m + 1)) := decide_eq_decide.mpr ⟨fun a => by
      rcases (hpar (k + 1)).mp a with b | b
      · lia
      · exact b, fun a => (hpar (k + 1)).mpr (.inr a)⟩
    rw [e, if_neg q]
    simp
theorem parsR_at {rs : List Row} {j : Nat} (h0 : 0 < j) (hj : j < rs.length) : (parsR rs)[j]?.getD 0 = (parR (colsR (leadsS rs)) j : Int) := by
  unfold parsR parentsR
  rw [List.getElem?_map, List.getElem?_range (by simp [leadsS]; exact hj)]
  simp only [Option.map_some, Option.getD_some]
  rw [if_neg (by lia)]
theorem sumN_le (f : Nat → Int) (b : Int) : ∀ n, (∀ k, k < n → 0 ≤ f k ∧ f k ≤ b) → 0 ≤ sumN f n ∧ sumN f n ≤ b * n
  | 0, _ => by simp [sumN]
  | n + 1, h => by
    have ih := sumN_le f b n fun k hk => h k (by lia)
    have := h n (by lia)
    simp only [sumN]
    have e : b * ((n + 1 : Nat) : Int) = b * n + b := by rw [Int.natCast_add, Int.mul_add]; simp
    lia
theorem page_tok {rs : List Row} (h : Page rs) : TOk (parsR rs) (pricesR rs) := by
  have hl := parsR_len rs
  have hpr : (pricesR rs).length = rs.length := by simp [pricesR]
  have hm := h.most
  refine ⟨by rw [hl, hpr], by rw [hl]; exact h.pos, by lia, fun j h0 hj => ?_, fun j h0 hj => ?_, ?_⟩
  · rw [hl] at hj ⊢
    have := (parR_facts h h0 hj).1
    rw [parsR_at h0 hj]; lia
  · rw [hl] at hj
    exact (priceK_le h j).2.2.1 h0 hj
  · rw [sum_getD]
    have := sumN_le (fun k => (pricesR rs)[k]?.getD 0) 2 (pricesR rs).length fun k _ => ⟨(priceK_le h k).1, (priceK_le h k).2.1⟩
    lia
theorem page_ways {rs : List Row} (h : Page rs) : Ways (parsR rs) (pricesR rs) (dW rs) := by
  have hl := parsR_len rs
  refine ⟨page_tok h, fun j h0 hj => ?_, (priceK_le h 0).2.2.2, fun i _ => dW_self rs i, fun m i h0 hm hi => ?_, fun m i h0 hm hi => ?_⟩
  · rw [hl] at hj
    have := (parR_facts h h0 hj).1
    rw [parsR_at h0 hj]; lia
  · rw [hl] at hm
    rw [parsR_at h0 hm, Int.toNat_natCast]
    exact dW_new h h0 hm hi
  · rw [hl] at hm
    rw [parsR_at h0 hm, Int.toNat_natCast, dW_comm rs m i, dW_comm rs _ i]
    exact dW_new h h0 hm hi
/-! the law's facts -/
theorem textAt_word {rs : List Row} (h : Page rs) {i : Nat} (hi : i < rs.length) : textAt (textsR rs (wordsR rs rs.length)) i = wordR rs (pileR rs (i + 1)) := by
  unfold textAt textsR
  cases i with
  | zero => rw [List.getElem?_cons_zero, Option.getD_some]; exact (word_zero h).symm
  | succ i =>
    rw [List.getElem?_cons_succ, List.getElem?_drop, Nat.add_comm 1 i]
    unfold wordsR
    rw [List.getElem?_map, List.getElem?_range hi]; rfl
theorem road_dW {rs : List Row} (h : Page rs) {i j : Nat} (hi : i < rs.length) (hj : j < rs.length) : roadR (textsR rs (wordsR rs rs.length)) i j = dW rs i j := by
  unfold roadR
  by_cases q : i = j
  · subst q; rw [if_pos rfl, dW_self]
  · rw [if_neg q, textAt_word h (by lia), textAt_word h (by lia), lev_words h]
    rcases Nat.lt_or_ge i j with c | c
    · rw [Nat.max_eq_right (by lia), Nat.min_eq_left (by lia)]
      exact dW_comm rs j i
    · rw [Nat.max_eq_left c, Nat.min_eq_right c]
      rfl
theorem page_short {rs : List Row} (h : Page rs) (hl : ∀ r ∈ rs, r.lead.length ≤ 10) : RowsOk rs := by
  have hm := h.most
  have key : ∀ r ∈ rs, r.mark.length ≤ 2 ∧ r.small.length ≤ 1 := fun r hr => by
    obtain ⟨k, hk⟩ := List.getElem?_of_mem hr
    have hf := h.fit k r hk
    by_cases q : k = 0
    · rw [hf.zero q]; simp
    · obtain ⟨_, kind, l, o, h1, _, _, _, h5, h6, _⟩ := hf.row (by lia)
      rw [h5, h6]
      unfold markOf
      obtain rfl | rfl | rfl : kind = 0 ∨ kind = 1 ∨ kind = 2 := by lia
      all_goals simp
  exact ⟨h.pos, h.most, hl, fun r hr => (key r hr).1, fun r hr => (key r hr).2⟩
theorem law_facts (xs : List Int) : LawFacts xs := by
  have hd := drawsR_len xs
  have h : Page (rsOf xs) := page_draws hd.2
  have hm := h.most
  have hl := parsR_len (rsOf xs)
  have mem : ∀ w ∈ wsOf xs, ∃ rp, w = wordR (rsOf xs) rp := fun w hw => by
    obtain ⟨i, _, rfl⟩ := List.mem_map.mp hw
    exact ⟨_, rfl⟩
  have road : ∀ i j, i < (rsOf xs).length → j < (rsOf xs).length → roadR (tsOf xs) i j = dW (rsOf xs) i j := fun i j hi hj => road_dW h hi hj
  refine ⟨page_short h fun r hr => ?_, ⟨fun w hw => ?_, fun w hw => ?_⟩, fun w hw => ?_, ⟨fun i => ?_, fun i c _ => fit_lower (by rw [S_len]; simp)⟩, fun j h0 hj => ?_, page_tok h, fun i j hi hj => ?_, fun i j hi hj => ?_⟩
  · have := rowsR_lead (drawsR xs) r hr
    lia
  · obtain ⟨rp, rfl⟩ := mem w hw; exact (word_signs h rp).1
  · obtain ⟨rp, rfl⟩ := mem w hw; exact (word_signs h rp).2
  · obtain ⟨rp, rfl⟩ := mem w hw; exact word_plain h rp
  · by_cases q : i < (rsOf xs).length
    · rw [show textAt (tsOf xs) i = _ from textAt_word h q]
      exact (word_signs h _).1
    · have : (tsOf xs).length ≤ i := by
        unfold tsOf textsR wsOf wordsR
        have := h.pos
        simp
        lia
      unfold textAt
      rw [List.getElem?_eq_none this]; simp
  · have hj : j < (rsOf xs).length := by simpa [leadsS] using hj
    exact above_ne h h0 hj
  · rw [road i j hi hj]
    have := sumN_le (apart (rsOf xs) (pileR (rsOf xs) (i + 1)) (pileR (rsOf xs) (j + 1))) 2 ((rsOf xs).length - 1) fun k _ => by
      unfold apart
      have := priceK_le h (k + 1)
      split <;> lia
    unfold dW
    lia
  · have key := turned_id (page_ways h) (i := i) (j := j) (by rw [hl]; exact hi) (by rw [hl]; exact hj)
    rw [hl] at key
    rw [← key]
    unfold sumR
    congr 1
    refine List.map_congr_left fun m hm' => ?_
    rw [road i m hi (List.mem_range.mp hm')]
    rfl
end Mine
end

/-! WD6 -/
section
namespace Mine
theorem ints_den {h : Heap} {vs : List Value} {xs : List Int} (x : IntsAre vs xs) : DenL T h (xs.map D.int) vs := by
  induction x with
  | nil => simp [DenL]
  | cons n t _ ih =>
    simp only [List.map_cons, DenL]
    exact ⟨_, _, rfl, by simp only [Den]; exact ⟨t, rfl⟩, ih⟩
theorem walk : Walk := by
  intro w s₁ a items xs hK hL hI hlen hg
  have hb : (Cw w).K.In s₁.heap := fun b o e => hK b o (by rw [← fragOf_lookup]; exact e)
  have S := @walk_law (Cw w) 0 (wmN w) w_tp11 xs hlen (law_facts xs)
  have c := Clv.fn (k := 3) f187 rfl S
  refine wpAny_mono (c (fun b => s₁.heap.get? b = none) callerA s₁ [.ref a] ⟨rfl, by decide, by decide⟩ hb (fun _ e => e) ?_) (fun v s' h => ?_) fun _ _ e => e
  · simp only [DenL]
    exact ⟨_, _, rfl, by simp only [Den]; exact ⟨a, items, rfl, trivial, hL, ints_den hI⟩, rfl⟩
  · obtain ⟨h1, h2⟩ := h
    exact ⟨by simpa only [Den] using h2, h1⟩
theorem all_done : rw0.Holds := head walk
end Mine
end

theorem PySem.Challenge.cw_qu0068_01_holds : PySem.Challenge.rw_qu0068_01.Holds := by
  exact Mine.all_done
