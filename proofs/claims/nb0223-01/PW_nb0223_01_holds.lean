import PyProof.Rows.All
import Wide.All
import OpenK.AllK
import Wide.FinOn
import PyProof.EqAt
import Lean
import PySem.Challenge.RW_nb0223_01
open PySem PySem.W PyProof.Rows
set_option Elab.async false
set_option maxRecDepth 100000
set_option maxHeartbeats 8000000
section
open PySem PySem.W PyProof.Rows PySem.Calls
set_option Elab.async false
namespace Mine
def Halt (P : Prop) : Prop := P
theorem halt {P : Prop} (h : Halt P) : P := h
theorem Halt.out {P : Prop} (h : P) : Halt P := h
/-- all stays but what is named in W -/
structure Ext (W : List Addr) (h h' : Heap) : Prop where
  keep : ∀ b o, b ∉ W → h.get? b = some o → h'.get? b = some o
theorem Ext.refl {W : List Addr} (h : Heap) : Ext W h h := ⟨fun _ _ _ e => e⟩
theorem Ext.trans {W : List Addr} {h h' h'' : Heap} (x : Ext W h h') (y : Ext W h' h'') : Ext W h h'' := ⟨fun b o n e => y.keep b o n (x.keep b o n e)⟩
theorem Ext.mono {W W' : List Addr} {h h' : Heap} (x : Ext W h h') (hs : ∀ a ∈ W, a ∈ W') : Ext W' h h' := ⟨fun b o n e => x.keep b o (fun q => n (hs b q)) e⟩
abbrev Sub (h h' : Heap) : Prop := Ext [] h h'
theorem Sub.get {h h' : Heap} (x : Sub h h') {b : Addr} {o : Obj} (e : h.get? b = some o) : h'.get? b = some o := x.keep b o List.not_mem_nil e
theorem Ext.get {h h' : Heap} (x : Ext [] h h') {b : Addr} {o : Obj} (e : h.get? b = some o) : h'.get? b = some o := x.keep b o List.not_mem_nil e
theorem Sub.of {h h' : Heap} (x : ∀ b o, h.get? b = some o → h'.get? b = some o) : Sub h h' := ⟨fun b o _ e => x b o e⟩
theorem Sub.ext {W : List Addr} {h h' : Heap} (x : Sub h h') : Ext W h h' := x.mono (by simp)
/-- the base: what the top left, and nothing that a call changes -/
structure Gd (K : Frag) (p : Program) (loose : List Str) (mean : ExcName → Option Value) (mg mb : Str → Option Value) (h : Heap) : Prop where
  K : K.In h
  T : Top p loose mean mg mb h
theorem Gd.sub {K : Frag} {p : Program} {loose : List Str} {mean : ExcName → Option Value} {mg mb : Str → Option Value} {h h' : Heap} (g : Gd K p loose mean mg mb h) (x : Sub h h') : Gd K p loose mean mg mb h' :=
  ⟨fun a o e => x.get (g.K a o e), g.T.keeps fun _ _ e => x.get e⟩
/-- the base lies in the heap; the named objects are none of the base's -/
structure In0 (h₀ h : Heap) (news : List (Addr × Obj)) : Prop where
  sub : Sub h₀ h
  led : ∀ p ∈ news, h.get? p.1 = some p.2 ∧ h₀.get? p.1 = none
abbrev Ar (dp un : Nat) (fr : Option (List Env)) (gd : Option (List Code)) : Around := { handled := none, depth := dp, frames := fr, guards := gd, units := un }
section
variable {prog : Program} {w : World} {A : Around} {s : Shared} {K : Frag} {p : Program} {loose : List Str} {mean : ExcName → Option Value} {mg mb : Str → Option Value} {h₀ : Heap} {news : List (Addr × Obj)}
  {R : Result → Shared → Prop} {name qual : Str} {params : Arguments} {body : List Stmt} {scope : Scope} {dV kV doc pm cdv ct oc : Value} {an od : Option Addr} {osl : Array (Option Value)} {f : Addr} {args : Args} {binds : List (Str × Value)}
theorem base_of (I : In0 h₀ s.heap news) : Sub h₀ (hideAll s.heap (news.map (·.1))) := by
  refine ⟨fun b o _ e => hideAll_get _ (I.sub.get e) fun q => ?_⟩
  obtain ⟨p, hp, rfl⟩ := List.mem_map.mp q
  rw [(I.led p hp).2] at e; cases e
/-- a def of the text is entered -/
theorem code_raw (G : Gd K p loose mean mg mb h₀) (I : In0 h₀ s.heap news)
    (ho : K.lookup f = some ⟨oc, od, .func (fnOf name qual params body scope dV kV doc pm an cdv ct), osl⟩) (hcd : codeIn K cdv qual = true) (hroom : A.depth < recursionLimit)
    (hbind : BindsTo s (fnOf name qual params body scope dV kV doc pm an cdv ct) args binds) (hloc : ∀ y ∈ binds, scope.names.lookup y.1 = some .local)
    (h : ∀ g L' h₁, (∀ b o, b ∉ news.map (·.1) → s.heap.get? b = some o → g.get? b = some o) → Sub h₀ g → s.heap.objs.size = L' →
      Fr g L' h₁ (fun y => binds.reverse.lookup y) → News g L' h₁ news → K.In g → Top p loose mean mg mb g →
      wpAny (model prog w) (A.deeper (envOf qual scope L' f cdv)) (execs body (envOf qual scope L' f cdv))
        (fun fl s' => R (.ok (.ret (match fl with | .ret v => v | _ => .none))) s')
        (fun e s' => wpAny (model prog w) (A.deeper (envOf qual scope L' f cdv)) (leaving (envOf qual scope L' f cdv) e) (fun _ s'' => R (.error e) s'') (fun e' s'' => R (.error e') s'') s')
        { s with heap := h₁, toks := s.toks + binds.length })
    (hco : scope.isCoroutine = false) (hgen : scope.isGenerator = false) (hk : scope.kind = .function)
    (hcell : ∀ x ∈ scope.names, x.2 ≠ .cell) : codeAny (model prog w) A (.call (.ref f) args) R s := by
  have gs := base_of (s := s) I
  refine codeAny_call_def (fd := fnOf name qual params body scope dV kV doc pm an cdv ct) (body := body) (binds := binds) hroom (I.sub.get (G.K _ _ ho)) rfl (G.T.nolimit.keeps fun _ _ e => I.sub.get e)
    (codeRec_of (fun a o e => I.sub.get (G.K a o e)) hcd) rfl hbind hcell hloc (fun h₁ hns hk₁ => ?_) hco hgen hk
  refine h _ s.heap.objs.size h₁ (fun b o n e => hideAll_get _ e n) gs rfl ⟨hns, fun b o e => hk₁ b o (of_hideAll _ e), Nat.le_of_eq (hideAll_size _ _)⟩
    (fun p hp => ⟨hk₁ _ _ (I.led p hp).1, Nat.ne_of_lt (Heap.lt_size (I.led p hp).1), hideAll_none _ (List.mem_map_of_mem hp)⟩) (Gd.sub G gs).K (Gd.sub G gs).T
/-- what a frame's end tells of the whole heap -/
theorem Fr.tells {g h h' : Heap} {L : Addr} {m : Str → Option Value} {W : List Addr} (F : Fr g L h' m) (hg : ∀ b o, b ∉ W → h.get? b = some o → g.get? b = some o) : Ext W h h' :=
  ⟨fun b o n e => F.keep b o (hg b o n e)⟩
theorem Ext.drop {W : List Addr} {h h' : Heap} {a : Addr} (x : Ext (a :: W) h h') (ha : ∀ o, h.get? a = some o → h'.get? a = some o) : Ext W h h' :=
  ⟨fun b o n e => by
    by_cases q : b = a
    · subst q; exact ha o e
    · exact x.keep b o (by simp only [List.mem_cons, not_or]; exact ⟨q, n⟩) e⟩
theorem Fr.ext {g h h' : Heap} {L : Addr} {m : Str → Option Value} {W : List Addr} (F : Fr g L h m) (x : Ext W h h') (hL : L ∉ W) (hW : ∀ a ∈ W, g.get? a = none) : Fr g L h' m := by
  obtain ⟨oL, es, ep, h1, r⟩ := F.ns
  refine ⟨⟨oL, es, ep, x.keep _ _ hL h1, r⟩, fun b o e => x.keep b o (fun q => ?_) (F.keep b o e), F.above⟩
  rw [hW b q] at e; cases e
theorem News.ext {g h h' : Heap} {L : Addr} {W : List Addr} {news : List (Addr × Obj)} (N : News g L h news) (x : Ext W h h') (hn : ∀ p ∈ news, p.1 ∉ W) : News g L h' news :=
  fun p hp => ⟨x.keep _ _ (hn p hp) (N p hp).1, (N p hp).2⟩
end
end Mine
end

section
open PySem PySem.W PyProof.Rows PySem.Calls
set_option Elab.async false
set_option linter.unusedVariables false
namespace Mine
/-- only heap and tokens have moved -/
def Mv (s s' : Shared) : Prop := ∃ h tk, s' = { s with heap := h, toks := tk }
theorem Mv.refl (s : Shared) : Mv s s := ⟨s.heap, s.toks, rfl⟩
theorem Mv.mk (s : Shared) (h : Heap) (tk : Nat) : Mv s { s with heap := h, toks := tk } := ⟨h, tk, rfl⟩
theorem Mv.trans {a b c : Shared} (x : Mv a b) (y : Mv b c) : Mv a c := by
  obtain ⟨h, tk, rfl⟩ := x; obtain ⟨h', tk', rfl⟩ := y; exact ⟨h', tk', rfl⟩
section
variable {prog : Program} {w : World} {A : Around} {E : Value → Shared → Prop} {env : Env} {s : Shared}
abbrev testsOf (ifs : List Expr) (env : Env) : Sem Bool := forIn ifs true fun c r => if r = true then do let ok ← isTrue c env (eval c env); pure (ForInStep.yield ok) else pure (ForInStep.yield r)
end
end Mine
end

section
open PySem PySem.W PyProof.Rows PySem.Calls
set_option Elab.async false
set_option linter.unusedVariables false
namespace Mine
section
variable {M : Model} {A : Around} {E : Value → Shared → Prop} {s : Shared} {env : Env} {K : Frag} {p : Program} {loose : List Str} {mean : ExcName → Option Value} {mg mb : Str → Option Value} {h₀ : Heap} {x : Str} {pos : Pos} {v : Value} {Q : Value → Shared → Prop} {m : Str → Option Value}
theorem nLocal (hn : s.heap.Ns env.locals m) (hv : m x = some v) (h : Q v s) (hk : env.scope.kind = .function) (hx : env.kindOf x = some .local) (hd : (x == ("__debug__" : Str)) = false := by decide) :
    wpAny M A (eval (.Name x pos) env) Q E s := wpAny_Name (wpAny_loadName_local hk hx hn hv h) hd
theorem nGlob (G : Gd K p loose mean mg mb h₀) (hs : Sub h₀ s.heap) (e : nsIn K mainGlobals x = some (some v)) (h : Q v s) (hg : env.globals = mainGlobals) (hk : env.scope.kind = .function) (hx : env.kindOf x = some .globalImplicit) (hd : (x == ("__debug__" : Str)) = false := by decide) :
    wpAny M A (eval (.Name x pos) env) Q E s :=
  Name_function_global hk hx (loadGlobal_global (env := env) (by rw [hg]; exact G.T.g.keeps fun _ _ e => hs.get e) (mg_of G.K G.T.g e) h) hd
theorem nBuilt (G : Gd K p loose mean mg mb h₀) (hs : Sub h₀ s.heap) (e : nsIn K mainGlobals x = some none) (hv : bootBuiltins x = some v) (hn : x ≠ "__name__") (h : Q v s) (hg : env.globals = mainGlobals) (hb : env.builtins = builtinsNs) (hk : env.scope.kind = .function) (hx : env.kindOf x = some .globalImplicit) (hd : (x == ("__debug__" : Str)) = false := by decide) :
    wpAny M A (eval (.Name x pos) env) Q E s :=
  Name_function_global hk hx (loadGlobal_builtin (env := env) (by rw [hg]; exact G.T.g.keeps fun _ _ e => hs.get e) (mg_none_of G.K G.T.g e) (by rw [hb]; exact G.T.b.keeps fun _ _ e => hs.get e) ((G.T.builtins x hn).trans hv) h) hd
theorem nFree {c : Addr} {o : Obj} (hc : env.cells.lookup x = some c) (ho : s.heap.get? c = some o) (hd : o.data = .cell (some v)) (h : Q v s) (hk : env.scope.kind = .function) (hx : env.kindOf x = some .free) (hb : (x == ("__debug__" : Str)) = false := by decide) (hn : (x == ("__classdict__" : Str)) = false := by decide) :
    wpAny M A (eval (.Name x pos) env) Q E s := wpAny_Name (wpAny_loadName_free hk hx hc ⟨o, ho, hd⟩ h hn) hb
theorem nCell {c : Addr} {o : Obj} (hc : env.cells.lookup x = some c) (ho : s.heap.get? c = some o) (hd : o.data = .cell (some v)) (h : Q v s) (hk : env.scope.kind = .function) (hx : env.kindOf x = some .cell) (hb : (x == ("__debug__" : Str)) = false := by decide) :
    wpAny M A (eval (.Name x pos) env) Q E s := wpAny_Name (wpAny_loadName_cell hk hx hc ⟨o, ho, hd⟩ h) hb
end
theorem IntsAre.snoc {vs : List Value} {ns : List Int} {n : Int} {t : Tok} (h : IntsAre vs ns) : IntsAre (vs ++ [.int n t]) (ns ++ [n]) := by
  induction h with
  | nil => exact .cons n t .nil
  | cons a b _ ih => exact .cons a b ih
end Mine
end

section
open PySem PySem.W PyProof.Rows PySem.Calls
set_option Elab.async false
set_option linter.unusedVariables false
namespace Mine
theorem get_ge {h : Heap} {a : Addr} (ha : h.objs.size ≤ a) : h.get? a = none := by
  cases e : h.get? a with
  | none => rfl
  | some o => exact absurd (Heap.lt_size e) (Nat.not_lt.mpr ha)
theorem ne_of_get {h : Heap} {a b : Addr} {o : Obj} (e : h.get? a = some o) (n : h.get? b = none) : a ≠ b := by rintro rfl; rw [e] at n; cases n
theorem get_none_sub {g h : Heap} (hk : ∀ b o, g.get? b = some o → h.get? b = some o) {a : Addr} (e : h.get? a = none) : g.get? a = none := by
  cases q : g.get? a with
  | none => rfl
  | some o => rw [hk a o q] at e; cases e
theorem news_add {g h h' : Heap} {L D : Addr} {m : Str → Option Value} {o : Obj} {news : List (Addr × Obj)} (F : Fr g L h m) (N : News g L h news) (hk : Sub h h') (hD : h.get? D = none) (hD' : h'.get? D = some o) :
    Fr g L h' m ∧ News g L h' ((D, o) :: news) := by
  have F' : Fr g L h' m := Fr.ext F hk (by simp) (by simp)
  refine ⟨F', fun p hp => ?_⟩
  rcases List.mem_cons.mp hp with rfl | hp
  · obtain ⟨oL, _, _, hL, _⟩ := F.ns
    exact ⟨hD', (ne_of_get hL hD).symm, get_none_sub F.keep hD⟩
  · exact ⟨hk.get (N p hp).1, (N p hp).2⟩
theorem Ext.sub_fresh {W : List Addr} {h h' : Heap} (x : Ext W h h') (hW : ∀ a ∈ W, h.get? a = none) : Sub h h' := ⟨fun b o _ e => x.keep b o (fun q => by rw [hW b q] at e; cases e) e⟩
theorem Sub.trans' {h h' h'' : Heap} (x : Sub h h') (y : Sub h' h'') : Sub h h'' := Ext.trans x y
theorem sub_push (h : Heap) (o : Obj) : Sub h (h.push o) := ⟨fun b o' _ e => Heap.get?_push_of_some _ e⟩
end Mine
end

section
open PySem PySem.W PyProof.Rows PySem.Calls
set_option Elab.async false
set_option linter.unusedVariables false
namespace Mine
/-- what a value hands out, one by one: n values, the i-th as P says -/
def Src (prog : Program) (w : World) (s : Shared) (v : Value) (n : Nat) (P : Nat → Value → Prop) (fp : List Addr) : Prop :=
  ∀ (A : Around) (E : Value → Shared → Prop) (Q : Value → Shared → Prop), A.handled = none →
    (∀ o St, Walks prog w A s.heap.objs.size (s.heap.objs.size :: fp) [s.heap.objs.size] n P St → (∀ i h, St i h → (h.get? s.heap.objs.size).isSome = true) → St 0 (s.heap.push o) → Q (.ref s.heap.objs.size) { s with heap := s.heap.push o }) →
    wpAny (model prog w) A (pyIter v) Q E s
section
variable {prog : Program} {w : World} {s : Shared}
theorem Src.str (x : Str) (t : Tok) : Src prog w s (.str x t) x.cps.size (SignAt x) [] := by
  intro A E Q hA k
  cases ha : x.cps.all (· < 128)
  · exact wpAny_pyIter_wide ha (k _ _ (Walks.strWide hA _ x t) (fun i h st => let ⟨o, ho, _⟩ := st; by rw [ho]; rfl) ⟨_, Heap.get?_push_size _ rfl, rfl, rfl⟩)
  · exact wpAny_pyIter_ascii ha (k _ _ (Walks.strAscii hA _ x t) (fun i h st => let ⟨o, ho, _⟩ := st; by rw [ho]; rfl) ⟨_, Heap.get?_push_size _ rfl, rfl, rfl⟩)
theorem Src.list {l : Addr} {items : Array Value} (hl : s.heap.IsList l items) : Src prog w s (.ref l) items.size (fun i v => items[i]? = some v) [l] := by
  intro A E Q hA k
  obtain ⟨ol, hol, _⟩ := id hl
  exact wpAny_pyIter_list hl (k _ _ (Walks.list hA _ l (Nat.ne_of_lt (Heap.lt_size hol)) items) (fun i h st => let ⟨⟨o, ho, _⟩, _⟩ := st; by rw [ho]; rfl) ⟨⟨_, Heap.get?_push_size _ rfl, rfl, rfl⟩, hl.at fun o e => Heap.get?_push_of_some _ e⟩)
end
section
variable {prog : Program} {w : World} {A : Around} {E : Value → Shared → Prop} {R : Result → Shared → Prop} {s : Shared}
/-- a turn of a comprehension of one clause, any target -/
theorem loopU {elt target iter : PySem.Expr} {ifs : List PySem.Expr} {scope : Scope} {pos : Pos} {it acc : Value} {env : Env} (I : Nat → Shared → Prop)
    (turn : ∀ n s, I n s → ∀ N : Value → Shared → Prop, wpAny (model prog w) A (pyNext it) (fun r s₁ => match r with
      | none => R (.ok .next) s₁
      | some v => wpAny (model prog w) A (letOwnedTupleGo target it v) (fun _ s₀ => wpAny (model prog w) A (assign target env v) (fun _ s₂ =>
          wpAny (model prog w) A (testsOf ifs env) (fun ok s₃ =>
            if ok = true then wpAny (model prog w) A (eval elt env) (fun x s₄ =>
              wpAny (model prog w) A (call (.builtin "list.append") [acc, x]) (fun _ s₅ => ∃ m, m < n ∧ I m s₅) N s₄) N s₃
            else ∃ m, m < n ∧ I m s₃) N s₂) N s₀) N s₁) N s)
    (n : Nat) (h : I n s) :
    codeAny (model prog w) A (.compLoop (.ListComp elt [⟨target, iter, ifs, 0⟩] scope pos) 0 it acc env) R s := by
  refine codeAny_loop rfl I (fun n s hI => ?_) n h
  show wpAny _ A ((compTurn (.ListComp elt [⟨target, iter, ifs, 0⟩] scope pos) 0 it acc env).onRaise (fun x => do noteFrame x env; theTreesLotGoes x)) _ _ s
  refine wpAny_noted ?_
  rw [compTurn_list]
  refine wpAny_bind (wpAny_standAt (wpAny_bind (wpAny_mono (turn n s hI _) (fun r s₁ h₁ => ?_) fun _ _ h' => h')))
  cases r with
  | none => exact wpAny_pure h₁
  | some v =>
    refine wpAny_bind (wpAny_mono h₁ (fun _ s₀ h₀ => ?_) fun _ _ h' => h')
    refine wpAny_bind (wpAny_mono h₀ (fun _ s₂ h₂ => wpAny_bind (wpAny_mono h₂ (fun ok s₃ h₃ => ?_) fun _ _ h' => h')) fun _ _ h' => h')
    cases ok with
    | false => exact wpAny_pure ⟨rfl, h₃⟩
    | true =>
      exact wpAny_bind (wpAny_bind (wpAny_mono h₃ (fun x s₄ h₄ => wpAny_bind (wpAny_mono h₄ (fun _ s₅ h₅ => wpAny_pure (wpAny_pure ⟨rfl, h₅⟩)) fun _ _ h' => h')) fun _ _ h' => h'))
end
/-- all below C stays, but X -/
def Low (C : Addr) (X : List Addr) (h h' : Heap) : Prop := ∀ b o, @LT.lt Nat _ b C → b ∉ X → h.get? b = some o → h'.get? b = some o
theorem Low.refl {C : Addr} {X : List Addr} (h : Heap) : Low C X h h := fun _ _ _ _ e => e
theorem Low.trans {C : Addr} {X : List Addr} {h h' h'' : Heap} (x : Low C X h h') (y : Low C X h' h'') : Low C X h h'' := fun b o hb nb e => y b o hb nb (x b o hb nb e)
theorem Low.of {C : Addr} {X : List Addr} {h h' : Heap} (x : Ext X h h') : Low C X h h' := fun b o _ nb e => x.keep b o nb e
/-- a turn of a comprehension: its tests, then its element; what lies below C stays, but X -/
abbrev TurnC (prog : Program) (w : World) (A : Around) (elt : PySem.Expr) (ifs : List PySem.Expr) (env : Env) (C : Addr) (X : List Addr) (E' : Value → Shared → Prop) (Inv : Nat → List Value → Heap → Prop) (i : Nat) (ys : List Value) (s₃ : Shared) : Prop :=
  wpAny (model prog w) A (testsOf ifs env) (fun ok s₄ =>
    if ok = true then Mv s₃ s₄ ∧ Low C X s₃.heap s₄.heap ∧ wpAny (model prog w) A (eval elt env) (fun y s₅ => Halt (Mv s₄ s₅ ∧ Low C X s₄.heap s₅.heap ∧ (∃ m₅, s₅.heap.Ns C m₅) ∧ Inv (i + 1) (ys ++ [y]) s₅.heap)) E' s₄
    else Mv s₃ s₄ ∧ Low C X s₃.heap s₄.heap ∧ (∃ m₄, s₄.heap.Ns C m₄) ∧ Inv (i + 1) ys s₄.heap) E' s₃
/-- the same: all stays but X -/
abbrev TurnE (prog : Program) (w : World) (A : Around) (elt : PySem.Expr) (ifs : List PySem.Expr) (env : Env) (X : List Addr) (E' : Value → Shared → Prop) (Inv : Nat → List Value → Heap → Prop) (i : Nat) (ys : List Value) (s₃ : Shared) : Prop :=
  wpAny (model prog w) A (testsOf ifs env) (fun ok s₄ =>
    if ok = true then Mv s₃ s₄ ∧ Ext X s₃.heap s₄.heap ∧ wpAny (model prog w) A (eval elt env) (fun y s₅ => Halt (Mv s₄ s₅ ∧ Ext X s₄.heap s₅.heap ∧ Inv (i + 1) (ys ++ [y]) s₅.heap)) E' s₄
    else Mv s₃ s₄ ∧ Ext X s₃.heap s₄.heap ∧ Inv (i + 1) ys s₄.heap) E' s₃
theorem TurnE.low {prog : Program} {w : World} {A : Around} {elt : PySem.Expr} {ifs : List PySem.Expr} {env : Env} {C : Addr} {X : List Addr} {E' : Value → Shared → Prop} {Inv : Nat → List Value → Heap → Prop} {i : Nat} {ys : List Value} {s₃ : Shared} {m : Str → Option Value}
    (h : TurnE prog w A elt ifs env X E' Inv i ys s₃) (hn : s₃.heap.Ns C m) (hC : C ∉ X) : TurnC prog w A elt ifs env C X E' Inv i ys s₃ := by
  refine wpAny_mono h (fun ok s₄ h₄ => ?_) fun _ _ e => e
  cases ok with
  | false =>
    simp only [Bool.false_eq_true, if_false] at h₄ ⊢
    exact ⟨h₄.1, .of h₄.2.1, ⟨_, hn.at' fun o e => h₄.2.1.keep _ o hC e⟩, h₄.2.2⟩
  | true =>
    simp only [if_true] at h₄ ⊢
    exact ⟨h₄.1, .of h₄.2.1, wpAny_mono h₄.2.2 (fun y s₅ h₅ => ⟨h₅.1, .of h₅.2.1, ⟨_, (hn.at' fun o e => h₄.2.1.keep _ o hC e).at' fun o e => h₅.2.1.keep _ o hC e⟩, h₅.2.2⟩) fun _ _ e => e⟩
section
variable (prog : Program) (w : World) (A : Around) (E : Value → Shared → Prop) (env : Env) (elt target : PySem.Expr) (x : Str) (ifs : List PySem.Expr) (scope : Scope) (cl : List (Str × Addr)) (use : Option (Value → Sem Unit)) (Q : Value → Shared → Prop)
/-- what an invariant of its own must bear (any target) -/
inductive CUI (I : Addr) (n : Nat) (P : Nat → Value → Prop) (St : Nat → Heap → Prop) (wr X : List Addr) (s₂ : Shared) (C D : Addr) : Prop
  | mk (Inv : Nat → List Value → Heap → Prop) (stab : ∀ i ys h h', Inv i ys h → Ext (C :: D :: wr) h h' → Inv i ys h') (i0 : Inv 0 [] s₂.heap)
    (turn : ∀ i v ys s₃ m₃ E', i < n → P i v → Inv i ys s₃.heap → Mv s₂ s₃ → s₃.heap.Ns C m₃ → ys.length ≤ i → s₃.heap.PlainList D ys.toArray → St (i + 1) s₃.heap →
      wpAny (model prog w) A (letOwnedTupleGo target (.ref I) v) (fun _ s₀ => wpAny (model prog w) A (assign target (compEnvC scope cl C env) v) (fun _ s₃' => Mv s₃ s₃' ∧ Low C X s₃.heap s₃'.heap ∧ TurnC prog w A elt ifs (compEnvC scope cl C env) C X E' Inv i ys s₃') E' s₀) E' s₃)
    (fin : ∀ h' tk ys m', Inv n ys h' → ys.length ≤ n → h'.PlainList D ys.toArray → h'.Ns C m' → compPost (model prog w) A E use Q (.ref D) C (.ok .next) { s₂ with heap := h', toks := tk })
inductive CU (it : Value) (s₂ : Shared) : Prop
  | mk (I : Addr) (fp wr : List Addr) (n : Nat) (P : Nat → Value → Prop) (St : Nat → Heap → Prop) (X : List Addr) (hit : it = .ref I) (W : Walks prog w A I fp wr n P St) (hz : n ≤ sizeLine) (hst : St 0 s₂.heap) (hfp : ∀ b ∈ fp, b < s₂.heap.objs.size)
    (hX : ∀ b ∈ X, b ∉ fp ∧ b < s₂.heap.objs.size) (hall : ∀ C D, s₂.heap.objs.size ≤ C → s₂.heap.objs.size ≤ D → C ≠ D → @LT.lt Nat _ D C → CUI prog w A E env elt target ifs scope cl use Q I n P St wr X s₂ C D)
/-- what an invariant of its own must bear (one name) -/
inductive C1I (n : Nat) (P : Nat → Value → Prop) (X : List Addr) (s₁ : Shared) (I C D : Addr) : Prop
  | mk (Inv : Nat → List Value → Heap → Prop) (stab : ∀ i ys h h', Inv i ys h → Ext [C, D, I] h h' → Inv i ys h') (i0 : Inv 0 [] s₁.heap)
    (turn : ∀ i v ys s₃ m₃ E', i < n → P i v → Inv i ys s₃.heap → Mv s₁ s₃ → s₃.heap.Ns C m₃ → m₃ x = some v → ys.length ≤ i → (s₃.heap.get? I).isSome = true → s₃.heap.PlainList D ys.toArray → TurnC prog w A elt ifs (compEnvC scope cl C env) C X E' Inv i ys s₃)
    (fin : ∀ h' tk ys m', Inv n ys h' → ys.length ≤ n → h'.PlainList D ys.toArray → h'.Ns C m' → compPost (model prog w) A E use Q (.ref D) C (.ok .next) { s₁ with heap := h', toks := tk })
inductive C1 (xv : Value) (s₁ : Shared) : Prop
  | mk (n : Nat) (P : Nat → Value → Prop) (fp X : List Addr) (src : Src prog w s₁ xv n P fp) (hz : n ≤ sizeLine) (hfp : ∀ b ∈ fp, b < s₁.heap.objs.size) (hX : ∀ b ∈ X, b ∉ fp ∧ b < s₁.heap.objs.size)
    (hall : ∀ I C D, s₁.heap.get? I = none → s₁.heap.get? C = none → s₁.heap.get? D = none → C ≠ D → I ≠ D → I ≠ C → s₁.heap.objs.size ≤ C → @LT.lt Nat _ I C → @LT.lt Nat _ D C → C1I prog w A E env elt x ifs scope cl use Q n P X s₁ I C D)
end
section
variable {prog : Program} {w : World} {A : Around} {E : Value → Shared → Prop} {env : Env} {s : Shared}
/-- a list comprehension of one clause, any target, used or not, by an invariant of its own making -/
theorem comp1U {elt iter target : PySem.Expr} {ifs : List PySem.Expr} {scope : Scope} {cl : List (Str × Addr)} {pos cpos : Pos} {Q : Value → Shared → Prop} {use : Option (Value → Sem Unit)}
    (hclos : closureFor scope env = pure cl) (hcell : ∀ y ∈ scope.names, y.2 ≠ .cell) (hkind : scope.kind = .function)
    (hnames : ∀ y ∈ scope.names, y.2 = .local → scope.names.lookup y.1 = some .local)
    (h : wpAny (model prog w) A (eval iter env) (fun xv s₁ => wpAny (model prog w) A (pyIter xv) (fun it s₂ => CU prog w A E env elt target ifs scope cl use Q it s₂) E s₁) E s)
    (hs : ∀ x, foldedSetIterable iter env x = pure x := by intro _; rfl) :
    wpAny (model prog w) A (comprehension (.ListComp elt [⟨target, iter, ifs, 0⟩] scope pos) scope env cpos (newList []) false (eval iter env) use) Q E s := by
  refine wpAny_comprehension_free (use := use) rfl hs hclos hkind hnames (wpAny_mono h (fun xv s₁ h₁ => wpAny_mono h₁ (fun it s₂ h₂ => ?_) fun _ _ e => e) fun _ _ e => e)
  obtain ⟨I, fp, wr, n, P, St, X, rfl, W, hsz, hst, hfp, hX, hall⟩ := h₂
  refine wpAny_newObj_type (wpAny_newFunctionEnv hcell (by intro y hy; simp at hy) (fun h₁ hns₁ hsb₁ => ?_) hkind)
  dsimp only at hns₁ hsb₁ ⊢
  generalize hH2 : s₂.heap.push { cls := .type "list", dict := none, data := .seq ([] : List Value).toArray } = H2 at hns₁ hsb₁ ⊢
  have hC : H2.objs.size = s₂.heap.objs.size + 1 := by rw [← hH2, Heap.size_push]
  have hDC : s₂.heap.objs.size ≠ H2.objs.size := by rw [hC]; exact Nat.ne_of_lt (Nat.lt_succ_self _)
  have hCle : s₂.heap.objs.size ≤ H2.objs.size := by rw [hC]; exact Nat.le_succ _
  have below : ∀ b, b < s₂.heap.objs.size → b ≠ H2.objs.size ∧ b ≠ s₂.heap.objs.size := fun b hb => ⟨by rw [hC]; exact Nat.ne_of_lt (Nat.lt_succ_of_lt hb), Nat.ne_of_lt hb⟩
  have hDf : s₂.heap.objs.size ∉ fp := fun hm => Nat.lt_irrefl _ (hfp _ hm)
  have hCf : H2.objs.size ∉ fp := fun hm => by have := hfp _ hm; rw [hC] at this; exact Nat.lt_irrefl _ (Nat.lt_of_succ_lt this)
  have hCw : H2.objs.size ∉ wr := fun h => hCf (W.sub _ h)
  have hDw : s₂.heap.objs.size ∉ wr := fun h => hDf (W.sub _ h)
  have hCX : H2.objs.size ∉ X := fun hm => by have := (hX _ hm).2; rw [hC] at this; exact Nat.lt_irrefl _ (Nat.lt_of_succ_lt this)
  have hDX : s₂.heap.objs.size ∉ X := fun hm => Nat.lt_irrefl _ (hX _ hm).2
  have hDlt : @LT.lt Nat _ s₂.heap.objs.size H2.objs.size := by rw [hC]; exact Nat.lt_succ_self _
  have fpC : ∀ b ∈ fp, @LT.lt Nat _ b H2.objs.size := fun b hb => Nat.lt_trans (hfp b hb) hDlt
  have old : ∀ b o, s₂.heap.get? b = some o → h₁.get? b = some o := fun b o e => hsb₁.extBut b o (below b (Heap.lt_size e)).1 (Heap.get?_push_of_some _ (hH2 ▸ Heap.get?_push_of_some _ e))
  have hacc : h₁.PlainList s₂.heap.objs.size #[] := ⟨_, hsb₁.extBut _ _ hDC (Heap.get?_push_of_some _ (hH2 ▸ Heap.get?_push_size _ rfl))⟩
  have hst₁ : St 0 h₁ := W.frame _ _ _ hst fun b _ o e => old b o e
  obtain ⟨Inv, stab, inv0, turn, fin⟩ := hall H2.objs.size s₂.heap.objs.size hCle (Nat.le_refl _) (Ne.symm hDC) hDlt
  have inv1 : Inv 0 [] h₁ := stab _ _ _ _ inv0 ⟨fun b o _ e => old b o e⟩
  have loop : ∀ s₃ : Shared, s₃ = { s₂ with heap := h₁, toks := s₂.toks + ([] : List (Str × Value)).length } →
      codeAny (model prog w) A (.compLoop (.ListComp elt [⟨target, iter, ifs, 0⟩] scope pos) 0 (.ref I) (.ref s₂.heap.objs.size) (compEnvC scope cl H2.objs.size env))
        (compPost (model prog w) A E use Q (.ref s₂.heap.objs.size) H2.objs.size) s₃ := by
    rintro s₃ rfl
    refine loopU
      (fun k s' => ∃ h' tk m' ys i, s' = { s₂ with heap := h', toks := tk } ∧ St i h' ∧ h'.PlainList s₂.heap.objs.size (List.toArray ys) ∧ h'.Ns H2.objs.size m' ∧ Inv i ys h' ∧ ys.length ≤ i ∧ i ≤ n ∧ k = n + 1 - i) ?_ (n + 1)
      ⟨_, _, _, [], 0, rfl, hst₁, hacc, hns₁, inv1, Nat.le_refl _, Nat.zero_le _, rfl⟩
    rintro k s' ⟨H, tk, m', ys, i, rfl, hst', hacc', hn', hI, hys, hi, rfl⟩ N
    by_cases hlt : i < n
    · refine W.item i _ _ _ hlt hst' fun v h₂ tk₁ hPv hst₂ hk₂ => ?_
      have hext : Ext (H2.objs.size :: s₂.heap.objs.size :: wr) H h₂ := ⟨fun b o nb e => by
        simp only [List.mem_cons, not_or] at nb
        exact hk₂ b o nb.2.2 e⟩
      have hI₃ := stab _ _ _ _ hI hext
      have hacc₃ : h₂.PlainList s₂.heap.objs.size (List.toArray ys) := hacc'.at fun o e => hk₂ _ o hDw e
      refine wpAny_mono (turn i v ys _ _ _ hlt hPv hI₃ ⟨_, _, rfl⟩ (hn'.at' fun o e => hk₂ _ o hCw e) hys hacc₃ hst₂) (fun _ s₀ h₀ => wpAny_mono h₀ (fun _ s₃' h₃ => ?_) fun _ _ e => e) fun _ _ e => e
      obtain ⟨⟨h3, tk3, rfl⟩, x3, w3⟩ := h₃
      have hst₃ : St (i + 1) h3 := W.frame _ _ _ hst₂ fun b hb o e => x3 b o (fpC b hb) (fun q => (hX b q).1 hb) e
      have hacc4 : h3.PlainList s₂.heap.objs.size (List.toArray ys) := hacc₃.at fun o e => x3 _ o hDlt hDX e
      refine wpAny_mono w3 (fun ok s₄ h₄ => ?_) fun _ _ e => e
      cases ok with
      | false =>
        simp only [Bool.false_eq_true, if_false] at h₄ ⊢
        obtain ⟨⟨h4, tk4, rfl⟩, x4, ⟨m₄, hn₄⟩, i4⟩ := h₄
        have st4 : St (i + 1) h4 := W.frame _ _ _ hst₃ fun b hb o e => x4 b o (fpC b hb) (fun q => (hX b q).1 hb) e
        exact ⟨n + 1 - (i + 1), by omega, h4, tk4, _, ys, i + 1, rfl, st4, hacc4.at fun o e => x4 _ o hDlt hDX e, hn₄, i4, Nat.le_succ_of_le hys, hlt, rfl⟩
      | true =>
        simp only [if_true] at h₄ ⊢
        obtain ⟨⟨h4, tk4, rfl⟩, x4, w4⟩ := h₄
        refine wpAny_mono w4 (fun y s₅ h₅ => ?_) fun _ _ e => e
        obtain ⟨⟨h5, tk5, rfl⟩, x5, ⟨m₅, n5⟩, i5⟩ := h₅
        have x45 := x4.trans x5
        have st5 : St (i + 1) h5 := W.frame _ _ _ hst₃ fun b hb o e => x45 b o (fpC b hb) (fun q => (hX b q).1 hb) e
        have a5 : h5.PlainList s₂.heap.objs.size (List.toArray ys) := hacc4.at fun o e => x45 _ o hDlt hDX e
        have hz : (List.toArray ys).size ≤ sizeLine := by simp; omega
        refine wpAny_list_append_plain (hsz := hz) a5 fun h6 a6 hs6 => ?_
        have st6 : St (i + 1) h6 := W.frame _ _ _ st5 fun b hb o e => hs6.extBut b o (fun h => hDf (h ▸ hb)) e
        have i6 := stab _ _ _ h6 i5 ⟨fun b o nb e => hs6.extBut b o (by simp only [List.mem_cons, not_or] at nb; exact nb.2.1) e⟩
        exact ⟨n + 1 - (i + 1), by omega, h6, tk5, _, ys ++ [y], i + 1, rfl, st6, by simpa using a6, n5.sameBut hs6 (Ne.symm hDC), i6, by simp; omega, hlt, rfl⟩
    · have hin : i = n := by omega
      subst hin
      refine W.done _ _ _ hst' fun h₂ tk₁ hk₂ => ?_
      refine fin _ _ ys m' (stab _ _ _ _ hI ⟨fun b o nb e => ?_⟩) hys (hacc'.at fun o e => hk₂ _ o hDw e) (hn'.at' fun o e => hk₂ _ o hCw e)
      simp only [List.mem_cons, not_or] at nb
      exact hk₂ b o nb.2.2 e
  exact codeAny_compStart_list (loop _ rfl) (W.self 0 _ _ _ hst₁ (loop _ rfl))
/-- the same, over a source, one name for a target -/
theorem comp1N {elt iter : PySem.Expr} {x : Str} {px : Pos} {ifs : List PySem.Expr} {scope : Scope} {cl : List (Str × Addr)} {pos cpos : Pos} {Q : Value → Shared → Prop} {use : Option (Value → Sem Unit)}
    (hA : A.handled = none) (hclos : closureFor scope env = pure cl) (hcell : ∀ y ∈ scope.names, y.2 ≠ .cell) (hkind : scope.kind = .function)
    (hnames : ∀ y ∈ scope.names, y.2 = .local → scope.names.lookup y.1 = some .local) (hx : scope.names.lookup x = some .local)
    (h : wpAny (model prog w) A (eval iter env) (fun xv s₁ => C1 prog w A E env elt x ifs scope cl use Q xv s₁) E s)
    (hs : ∀ x, foldedSetIterable iter env x = pure x := by intro _; rfl) :
    wpAny (model prog w) A (comprehension (.ListComp elt [⟨.Name x px, iter, ifs, 0⟩] scope pos) scope env cpos (newList []) false (eval iter env) use) Q E s := by
  refine comp1U hclos hcell hkind hnames (wpAny_mono h (fun xv s₁ h₁ => ?_) fun _ _ e => e) hs
  obtain ⟨n, P, fp, X, src, hz, hfp, hX, hall⟩ := h₁
  refine src A E _ hA fun o St W hal hst => ?_
  have hI : s₁.heap.get? s₁.heap.objs.size = none := get_ge (Nat.le_refl _)
  have hsz' : (s₁.heap.push o).objs.size = s₁.heap.objs.size + 1 := Heap.size_push ..
  refine ⟨s₁.heap.objs.size, s₁.heap.objs.size :: fp, [s₁.heap.objs.size], n, P, St, X, rfl, W, hz, hst, ?_, ?_, ?_⟩
  · intro b hb
    show b < (s₁.heap.push o).objs.size
    rw [hsz']
    rcases List.mem_cons.mp hb with rfl | hb
    · exact Nat.lt_succ_self _
    · exact Nat.lt_succ_of_lt (hfp b hb)
  · intro b hb
    show _ ∧ b < (s₁.heap.push o).objs.size
    rw [hsz']
    refine ⟨fun q => ?_, Nat.lt_succ_of_lt (hX b hb).2⟩
    rcases List.mem_cons.mp q with rfl | q
    · exact Nat.lt_irrefl _ (hX _ hb).2
    · exact (hX b hb).1 q
  · intro C D hC hD hCD hDC'
    have hC' : (s₁.heap.push o).objs.size ≤ C := hC
    have hD' : (s₁.heap.push o).objs.size ≤ D := hD
    rw [hsz'] at hC' hD'
    have gC : s₁.heap.get? C = none := get_ge (Nat.le_trans (Nat.le_succ _) hC')
    have gD : s₁.heap.get? D = none := get_ge (Nat.le_trans (Nat.le_succ _) hD')
    obtain ⟨Inv, stab, h0, turn, fin⟩ := hall s₁.heap.objs.size C D hI gC gD hCD (Nat.ne_of_lt hD') (Nat.ne_of_lt hC') (Nat.le_trans (Nat.le_succ _) hC') hC' hDC'
    refine ⟨Inv, stab, stab _ _ _ _ h0 (Sub.ext (sub_push _ _)), ?_, fun h' tk ys m' a b c d => fin h' tk ys m' a b c d⟩
    intro i v ys s₃ m₃ E' hi hP hInv hmv hn hlen hpl hst3
    refine wpAny_of_eq (a := ()) rfl ?_
    refine wpAny_assign_Name (wpAny_storeName_local (env := compEnvC scope cl C env) (lookup_relabel_local hx) hn (fun h₃ hn₃ hs₃ => ?_) (by simp [compEnvC, relabel, hkind]))
    have xE : Ext [C, D, s₁.heap.objs.size] s₃.heap h₃ := ⟨fun b o nb e => hs₃.extBut b o (fun q => nb (List.mem_cons.mpr (.inl q))) e⟩
    refine ⟨⟨_, _, rfl⟩, fun b o hb _ e => hs₃.extBut b o (show b ≠ C from Nat.ne_of_lt hb) e, ?_⟩
    have hIs : (h₃.get? s₁.heap.objs.size).isSome = true := by
      have h1 := hal _ _ hst3
      cases hq : s₃.heap.get? s₁.heap.objs.size with
      | none => rw [hq] at h1; cases h1
      | some o => rw [hs₃.extBut _ o (show s₁.heap.objs.size ≠ C from Nat.ne_of_lt hC') hq]; rfl
    exact turn i v ys _ _ E' hi hP (stab _ _ _ _ hInv xE) (Mv.trans (Mv.trans (Mv.mk _ _ _) hmv) ⟨_, _, rfl⟩) hn₃ (if_pos rfl) hlen hIs (hpl.at fun o e => hs₃.extBut _ o (Ne.symm hCD) e)
section
variable (prog w A E env)
variable (elt : PySem.Expr) (x : Str) (ifs : List PySem.Expr) (scope : Scope) (cl : List (Str × Addr)) (Q : Value → Shared → Prop)
inductive CGI (n : Nat) (P : Nat → Value → Prop) (X : List Addr) (s₁ : Shared) (I C D : Addr) : Prop
  | mk (Inv : Nat → List Value → Heap → Prop) (stab : ∀ i ys h h', Inv i ys h → Ext [C, D, I] h h' → Inv i ys h') (i0 : Inv 0 [] s₁.heap)
    (turn : ∀ i v ys s₃ m₃ E', i < n → P i v → Inv i ys s₃.heap → Mv s₁ s₃ → s₃.heap.Ns C m₃ → m₃ x = some v → ys.length ≤ i → s₃.heap.PlainList D ys.toArray → (s₃.heap.get? I).isSome = true → TurnE prog w A elt ifs (compEnvC scope cl C env) X E' Inv i ys s₃)
    (fin : ∀ h' tk ys, Inv n ys h' → ys.length ≤ n → h'.PlainList D ys.toArray → Q (.ref D) { s₁ with heap := h', toks := tk })
/-- a comprehension with an invariant over the heap; X may change -/
inductive CG (xv : Value) (s₁ : Shared) : Prop
  | mk (n : Nat) (P : Nat → Value → Prop) (fp X : List Addr) (src : Src prog w s₁ xv n P fp) (hz : n ≤ sizeLine) (hfp : ∀ b ∈ fp, b < s₁.heap.objs.size) (hX : ∀ b ∈ X, b ∉ fp ∧ b < s₁.heap.objs.size)
    (hall : ∀ I C D, s₁.heap.get? I = none → s₁.heap.get? C = none → s₁.heap.get? D = none → C ≠ D → I ≠ D → I ≠ C → CGI prog w A env elt x ifs scope cl Q n P X s₁ I C D)
inductive CLI (n : Nat) (P : Nat → Value → Prop) (s₁ : Shared) (I C D : Addr) : Prop
  | mk (Rl : Nat → List Value → Heap → Prop) (stab : ∀ i ys h h', Rl i ys h → Ext [C, D, I] h h' → Rl i ys h') (i0 : Rl 0 [] s₁.heap)
    (turn : ∀ i v ys s₃ m₃ E', i < n → P i v → Rl i ys s₃.heap → Mv s₁ s₃ → Sub s₁.heap s₃.heap → s₃.heap.Ns C m₃ → m₃ x = some v → ys.length ≤ i → (s₃.heap.get? I).isSome = true → (s₃.heap.get? D).isSome = true → TurnC prog w A elt ifs (compEnvC scope cl C env) C [] E' Rl i ys s₃)
    (fin : ∀ h' h'' tk ys e, Rl n ys h' → ys.length ≤ n → Ext [C] h' h'' → h''.get? D = some { cls := .type "list", data := .seq ys.toArray e } → Sub s₁.heap h'' → Q (.ref D) { s₁ with heap := h'', toks := tk })
/-- a comprehension that changes nothing below its own names, with an invariant over the heap -/
inductive CL (xv : Value) (s₁ : Shared) : Prop
  | mk (n : Nat) (P : Nat → Value → Prop) (fp : List Addr) (src : Src prog w s₁ xv n P fp) (hz : n ≤ sizeLine) (hfp : ∀ b ∈ fp, b < s₁.heap.objs.size)
    (hall : ∀ I C D, s₁.heap.get? I = none → s₁.heap.get? C = none → s₁.heap.get? D = none → C ≠ D → s₁.heap.objs.size ≤ C → @LT.lt Nat _ I C → @LT.lt Nat _ D C → CLI prog w A env elt x ifs scope cl Q n P s₁ I C D)
variable (Rl : Nat → List Value → Prop)
/-- the same; what is collected are no new objects -/
inductive CSL (xv : Value) (s₁ : Shared) : Prop
  | mk (n : Nat) (P : Nat → Value → Prop) (fp : List Addr) (src : Src prog w s₁ xv n P fp) (hz : n ≤ sizeLine) (hfp : ∀ b ∈ fp, b < s₁.heap.objs.size)
    (turn : ∀ i v ys s₃ C m₃ E', i < n → P i v → Rl i ys → Mv s₁ s₃ → Sub s₁.heap s₃.heap → s₃.heap.Ns C m₃ → m₃ x = some v → ys.length ≤ i → s₁.heap.objs.size ≤ C → TurnC prog w A elt ifs (compEnvC scope cl C env) C [] E' (fun i ys _ => Rl i ys) i ys s₃)
    (fin : ∀ D h' tk ys e, Rl n ys → ys.length ≤ n → s₁.heap.get? D = none → h'.get? D = some { cls := .type "list", data := .seq ys.toArray e } → Sub s₁.heap h' → Q (.ref D) { s₁ with heap := h', toks := tk })
/-- nothing is changed, what is collected are no new objects -/
inductive CS (xv : Value) (s₁ : Shared) : Prop
  | mk (n : Nat) (P : Nat → Value → Prop) (fp : List Addr) (src : Src prog w s₁ xv n P fp) (hz : n ≤ sizeLine) (hfp : ∀ b ∈ fp, b < s₁.heap.objs.size)
    (turn : ∀ i v ys s₃ C m₃ E', i < n → P i v → Rl i ys → Mv s₁ s₃ → Sub s₁.heap s₃.heap → s₃.heap.Ns C m₃ → m₃ x = some v → ys.length ≤ i → TurnE prog w A elt ifs (compEnvC scope cl C env) [] E' (fun i ys _ => Rl i ys) i ys s₃)
    (fin : ∀ D h' tk ys e, Rl n ys → ys.length ≤ n → s₁.heap.get? D = none → h'.get? D = some { cls := .type "list", data := .seq ys.toArray e } → Sub s₁.heap h' → Q (.ref D) { s₁ with heap := h', toks := tk })
end
variable {elt iter : PySem.Expr} {x : Str} {px : Pos} {ifs : List PySem.Expr} {scope : Scope} {cl : List (Str × Addr)} {pos : Pos} {Q : Value → Shared → Prop}
theorem comp1G (hA : A.handled = none) (hclos : closureFor scope env = pure cl) (hcell : ∀ y ∈ scope.names, y.2 ≠ .cell) (hkind : scope.kind = .function)
    (hnames : ∀ y ∈ scope.names, y.2 = .local → scope.names.lookup y.1 = some .local) (hx : scope.names.lookup x = some .local)
    (h : wpAny (model prog w) A (eval iter env) (fun xv s₁ => Halt (CG prog w A env elt x ifs scope cl Q xv s₁)) E s)
    (hs : ∀ x, foldedSetIterable iter env x = pure x := by intro _; rfl) :
    wpAny (model prog w) A (eval (.ListComp elt [⟨.Name x px, iter, ifs, 0⟩] scope pos) env) Q E s := by
  rw [eval_ListComp]
  refine comp1N (use := none) hA hclos hcell hkind hnames hx (wpAny_mono h (fun xv s₁ h₁ => ?_) fun _ _ e => e) hs
  obtain ⟨n, P, fp, X, src, hz, hfp, hX, hall⟩ := h₁
  refine ⟨n, P, fp, X, src, hz, hfp, hX, fun I C D gI gC gD hCD hID hIC hCge hIlt hDlt => ?_⟩
  obtain ⟨Inv, stab, i0, turn, fin⟩ := hall I C D gI gC gD hCD hID hIC
  refine ⟨Inv, stab, i0, fun i v ys s₃ m₃ E' hi hP hI hmv hn hm hlen hIs hpl => (turn i v ys s₃ m₃ E' hi hP hI hmv hn hm hlen hpl hIs).low hn fun q => ?_, fun h' tk ys m' hI hlen hpl hnC => ⟨m', hnC, fun h'' hs'' => ?_⟩⟩
  · exact Nat.lt_irrefl _ (Nat.lt_of_lt_of_le (hX C q).2 hCge)
  · exact fin h'' tk ys (stab _ _ _ _ hI ⟨fun b o nb e => hs''.extBut b o (fun q => nb (List.mem_cons.mpr (.inl q))) e⟩) hlen (hpl.at fun o e => hs''.extBut _ o (Ne.symm hCD) e)
theorem lowSub {h₁ h h' : Heap} {C : Addr} (hC : h₁.objs.size ≤ C) (x : Sub h₁ h) (y : Low C [] h h') : Sub h₁ h' := ⟨fun b o _ e => y b o (Nat.lt_of_lt_of_le (Heap.lt_size e) hC) List.not_mem_nil (x.get e)⟩
theorem freshSub {h₁ h' : Heap} {I C D : Addr} (gI : h₁.get? I = none) (gC : h₁.get? C = none) (gD : h₁.get? D = none) (x : Ext [C, D, I] h₁ h') : Sub h₁ h' := x.sub_fresh fun a ha => by
  rcases List.mem_cons.mp ha with rfl | ha
  · exact gC
  rcases List.mem_cons.mp ha with rfl | ha
  · exact gD
  · rw [List.mem_singleton.mp ha]; exact gI
/-- a turn that keeps what stood at the start -/
theorem TurnC.keep {E' : Value → Shared → Prop} {Inv : Nat → List Value → Heap → Prop} {i : Nat} {ys : List Value} {s₃ : Shared} {h₁ : Heap} {C : Addr} (hC : h₁.objs.size ≤ C) (x3 : Sub h₁ s₃.heap) (h : TurnC prog w A elt ifs env C [] E' Inv i ys s₃) :
    TurnC prog w A elt ifs env C [] E' (fun i ys h => Inv i ys h ∧ Sub h₁ h) i ys s₃ := by
  refine wpAny_mono h (fun ok s₄ h₄ => ?_) fun _ _ e => e
  cases ok with
  | false =>
    simp only [Bool.false_eq_true, if_false] at h₄ ⊢
    exact ⟨h₄.1, h₄.2.1, h₄.2.2.1, h₄.2.2.2, lowSub hC x3 h₄.2.1⟩
  | true =>
    simp only [if_true] at h₄ ⊢
    exact ⟨h₄.1, h₄.2.1, wpAny_mono h₄.2.2 (fun y s₅ h₅ => ⟨h₅.1, h₅.2.1, h₅.2.2.1, h₅.2.2.2, lowSub hC x3 (h₄.2.1.trans h₅.2.1)⟩) fun _ _ e => e⟩
theorem comp1GL (hA : A.handled = none) (hclos : closureFor scope env = pure cl) (hcell : ∀ y ∈ scope.names, y.2 ≠ .cell) (hkind : scope.kind = .function)
    (hnames : ∀ y ∈ scope.names, y.2 = .local → scope.names.lookup y.1 = some .local) (hx : scope.names.lookup x = some .local)
    (h : wpAny (model prog w) A (eval iter env) (fun xv s₁ => Halt (CL prog w A env elt x ifs scope cl Q xv s₁)) E s)
    (hs : ∀ x, foldedSetIterable iter env x = pure x := by intro _; rfl) :
    wpAny (model prog w) A (eval (.ListComp elt [⟨.Name x px, iter, ifs, 0⟩] scope pos) env) Q E s := by
  rw [eval_ListComp]
  refine comp1N (use := none) hA hclos hcell hkind hnames hx (wpAny_mono h (fun xv s₁ h₁ => ?_) fun _ _ e => e) hs
  obtain ⟨n, P, fp, src, hz, hfp, hall⟩ := h₁
  refine ⟨n, P, fp, [], src, hz, hfp, fun b hb => absurd hb List.not_mem_nil, fun I C D gI gC gD hCD hID hIC hCge hIlt hDlt => ?_⟩
  obtain ⟨Rl, stab, i0, turn, fin⟩ := hall I C D gI gC gD hCD hCge hIlt hDlt
  refine ⟨fun i ys h => Rl i ys h ∧ Sub s₁.heap h, fun i ys h h' hi e => ⟨stab i ys h h' hi.1 e, freshSub gI gC gD ((Sub.ext hi.2).trans e)⟩, ⟨i0, Ext.refl _⟩, ?_, ?_⟩
  · intro i v ys s₃ m₃ E' hi hP hI hmv hn hm hlen hIs hpl
    obtain ⟨e, he⟩ := hpl
    exact (turn i v ys s₃ m₃ E' hi hP hI.1 hmv hI.2 hn hm hlen hIs (by rw [he]; rfl)).keep hCge hI.2
  · intro h' tk ys m' hI hlen hpl hnC
    obtain ⟨e, he⟩ := hpl
    exact ⟨m', hnC, fun h'' hs'' => fin h' h'' tk ys e hI.1 hlen ⟨fun b o nb e => hs''.extBut b o (fun q => nb (List.mem_singleton.mpr q)) e⟩ (hs''.extBut _ _ (Ne.symm hCD) he) ⟨fun b o _ e => hs''.extBut b o (ne_of_get e gC) (hI.2.get e)⟩⟩
theorem comp1SL (Rl : Nat → List Value → Prop) (hA : A.handled = none) (hclos : closureFor scope env = pure cl) (hcell : ∀ y ∈ scope.names, y.2 ≠ .cell) (hkind : scope.kind = .function)
    (hnames : ∀ y ∈ scope.names, y.2 = .local → scope.names.lookup y.1 = some .local) (hx : scope.names.lookup x = some .local) (h0 : Rl 0 [])
    (h : wpAny (model prog w) A (eval iter env) (fun xv s₁ => Halt (CSL prog w A env elt x ifs scope cl Q Rl xv s₁)) E s)
    (hs : ∀ x, foldedSetIterable iter env x = pure x := by intro _; rfl) :
    wpAny (model prog w) A (eval (.ListComp elt [⟨.Name x px, iter, ifs, 0⟩] scope pos) env) Q E s := by
  refine comp1GL hA hclos hcell hkind hnames hx (wpAny_mono h (fun xv s₁ h₁ => ?_) fun _ _ e => e) hs
  obtain ⟨n, P, fp, src, hz, hfp, turn, fin⟩ := h₁
  exact ⟨n, P, fp, src, hz, hfp, fun I C D gI gC gD hCD hCge hIlt hDlt => ⟨fun i ys _ => Rl i ys, fun _ _ _ _ a _ => a, h0, fun i v ys s₃ m₃ E' hi hP hI hmv hx3 hn hm hlen _ _ => turn i v ys s₃ C m₃ E' hi hP hI hmv hx3 hn hm hlen hCge,
    fun h' h'' tk ys e hR hlen _ hD hsub => fin D h'' tk ys e hR hlen gD hD hsub⟩⟩
theorem comp1S (Rl : Nat → List Value → Prop) (hA : A.handled = none) (hclos : closureFor scope env = pure cl) (hcell : ∀ y ∈ scope.names, y.2 ≠ .cell) (hkind : scope.kind = .function)
    (hnames : ∀ y ∈ scope.names, y.2 = .local → scope.names.lookup y.1 = some .local) (hx : scope.names.lookup x = some .local) (h0 : Rl 0 [])
    (h : wpAny (model prog w) A (eval iter env) (fun xv s₁ => Halt (CS prog w A env elt x ifs scope cl Q Rl xv s₁)) E s)
    (hs : ∀ x, foldedSetIterable iter env x = pure x := by intro _; rfl) :
    wpAny (model prog w) A (eval (.ListComp elt [⟨.Name x px, iter, ifs, 0⟩] scope pos) env) Q E s := by
  refine comp1SL Rl hA hclos hcell hkind hnames hx h0 (wpAny_mono h (fun xv s₁ h₁ => ?_) fun _ _ e => e) hs
  obtain ⟨n, P, fp, src, hz, hfp, turn, fin⟩ := h₁
  exact ⟨n, P, fp, src, hz, hfp, fun i v ys s₃ C m₃ E' hi hP hI hmv hx3 hn hm hlen _ => (turn i v ys s₃ C m₃ E' hi hP hI hmv hx3 hn hm hlen).low hn List.not_mem_nil, fin⟩
end
end Mine
end

section
open PySem PySem.W PyProof.Rows PySem.Calls
set_option Elab.async false
set_option linter.unusedVariables false
namespace Mine
section
variable {prog : Program} {w : World} {A : Around} {s : Shared} {K : Frag} {p : Program} {loose : List Str} {mean : ExcName → Option Value} {mg mb : Str → Option Value} {h₀ : Heap} {news : List (Addr × Obj)}
  {R : Result → Shared → Prop} {name qual : Str} {params : Arguments} {body : List Stmt} {scope : Scope} {dV kV doc pm cdv ct oc : Value} {an od : Option Addr} {osl : Array (Option Value)} {f : Addr} {args : Args} {binds : List (Str × Value)}
/-- a def of the text with cells is entered -/
theorem code_rawC (G : Gd K p loose mean mg mb h₀) (I : In0 h₀ s.heap news)
    (ho : K.lookup f = some ⟨oc, od, .func (fnOf name qual params body scope dV kV doc pm an cdv ct), osl⟩) (hcd : codeIn K cdv qual = true) (hroom : A.depth < recursionLimit)
    (hbind : BindsTo s (fnOf name qual params body scope dV kV doc pm an cdv ct) args binds)
    (hkind : (binds.all fun y => scope.names.lookup y.1 == some .local || scope.names.lookup y.1 == some .cell) = true)
    (hnd : ((cellsFrom 0 scope.names []).map (·.1)).Nodup)
    (h : ∀ g L' h₁ tk cells, (∀ b o, b ∉ news.map (·.1) → s.heap.get? b = some o → g.get? b = some o) → Sub h₀ g → s.heap.objs.size = L' →
      Fr g L' h₁ (bindL (envOfC qual scope L' f cdv).kindOf binds fun _ => none) → News g L' h₁ (cells ++ news) →
      CellsAre (bindC (envOfC qual scope L' f cdv).kindOf binds fun _ => none) (cellsFrom (L' + 1) scope.names []) cells → K.In g → Top p loose mean mg mb g → (∀ p ∈ news, p.1 < L') →
      wpAny (model prog w) (A.deeper (envOfC qual scope L' f cdv)) (execs body (envOfC qual scope L' f cdv))
        (fun fl s' => R (.ok (.ret (match fl with | .ret v => v | _ => .none))) s')
        (fun e s' => wpAny (model prog w) (A.deeper (envOfC qual scope L' f cdv)) (leaving (envOfC qual scope L' f cdv) e) (fun _ s'' => R (.error e) s'') (fun e' s'' => R (.error e') s'') s')
        { s with heap := h₁, toks := tk })
    (hco : scope.isCoroutine = false) (hgen : scope.isGenerator = false) (hk : scope.kind = .function) : codeAny (model prog w) A (.call (.ref f) args) R s := by
  have gs := base_of (s := s) I
  refine codeAny_call_function (fd := fnOf name qual params body scope dV kV doc pm an cdv ct) hroom (I.sub.get (G.K _ _ ho)) rfl hco hgen rfl (codeRec_of (fun a o e => I.sub.get (G.K a o e)) hcd) (hbind _ _ _ _ ?_)
  refine wpAny_newFunctionEnv_cells hk (kindsX hkind _) fun env' he s' x => ?_
  subst he
  refine ⟨(G.T.nolimit.keeps fun _ _ e => I.sub.get e).keeps x.toInCall.keep, codeAny_func ?_⟩
  obtain ⟨h₁, tk, rfl, _⟩ := x.done
  have hk₁ := x.toInCall.keep
  obtain ⟨cells, NC, Y⟩ := Cl.news (h₀ := s.heap) (Nat.le_refl _) fun n c hm => ⟨x.cell n c (lookup_of_mem_nodup (cellsFrom_names scope.names 0 (s.heap.objs.size + 1) [] [] rfl ▸ hnd) hm), x.above n c hm⟩
  refine h _ s.heap.objs.size h₁ tk cells (fun b o n e => hideAll_get _ e n) gs rfl ⟨x.toInCall.ns, fun b o e => hk₁ b o (of_hideAll _ e), Nat.le_of_eq (hideAll_size _ _)⟩ (fun p hp => ?_) Y (Gd.sub G gs).K (Gd.sub G gs).T (fun p hp => Heap.lt_size (I.led p hp).1)
  rcases List.mem_append.mp hp with hp | hp
  · refine ⟨(NC p hp).1, (NC p hp).2.1, ?_⟩
    cases q : (hideAll s.heap (news.map (·.1))).get? p.1 with
    | none => rfl
    | some o => have := of_hideAll _ q; rw [(NC p hp).2.2] at this; cases this
  · exact ⟨hk₁ _ _ (I.led p hp).1, Nat.ne_of_lt (Heap.lt_size (I.led p hp).1), hideAll_none _ (List.mem_map_of_mem hp)⟩
end
theorem Ext.less {W W' : List Addr} {h h' : Heap} (x : Ext W h h') (hk : ∀ b ∈ W, b ∉ W' → ∀ o, h.get? b = some o → h'.get? b = some o) : Ext W' h h' :=
  ⟨fun b o n e => by
    by_cases q : b ∈ W
    · exact hk b q n o e
    · exact x.keep b o q e⟩
/-- back from a callee's frame into the caller's -/
theorem back {g g' h h'' : Heap} {L L'' : Addr} {m m'' : Str → Option Value} {news news'' : List (Addr × Obj)} (F : Fr g L h m) (N : News g L h news) (hg' : ∀ b o, b ∉ news.map (·.1) → h.get? b = some o → g'.get? b = some o)
    (F'' : Fr g' L'' h'' m'') (N'' : News g' L'' h'' news'') : Fr g L h'' m ∧ News g L h'' news'' := by
  obtain ⟨oL, es, ep, hL, r⟩ := F.ns
  have nL : L ∉ news.map (·.1) := fun q => by
    obtain ⟨p, hp, e⟩ := List.mem_map.mp q
    exact (N p hp).2.1 e
  have st : ∀ b o, g.get? b = some o → g'.get? b = some o := fun b o e => hg' b o (fun q => by
    obtain ⟨p, hp, rfl⟩ := List.mem_map.mp q
    rw [(N p hp).2.2] at e; cases e) (F.keep b o e)
  refine ⟨⟨⟨oL, es, ep, F''.keep _ _ (hg' _ _ nL hL), r⟩, fun b o e => F''.keep b o (st b o e), F.above⟩, fun p hp => ⟨(N'' p hp).1, fun q => ?_, ?_⟩⟩
  · have := (N'' p hp).2.2; rw [q, hg' _ _ nL hL] at this; cases this
  · exact get_none_sub st (N'' p hp).2.2
section
variable {prog : Program} {w : World} {A : Around} {s : Shared} {K : Frag} {p : Program} {loose : List Str} {mean : ExcName → Option Value} {mg mb : Str → Option Value} {h₀ : Heap} {news : List (Addr × Obj)}
/-- a lambda that the call has made is entered -/
theorem code_rawL {R : Result → Shared → Prop} {name qual : Str} {params : Arguments} {body : Expr} {scope : Scope} {cl : List (Str × Addr)} {pm ctv : Value} {c' : Addr} {f : Addr} {args : Args} {binds : List (Str × Value)}
    (G : Gd K p loose mean mg mb h₀) (I : In0 h₀ s.heap news)
    (ho : s.heap.get? f = some (kla_obj name qual params body scope cl pm c' ctv)) (hcd : s.heap.CodeRec (.ref c') qual) (hroom : A.depth < recursionLimit)
    (hbind : bindArgs (kla_fn name qual params body scope cl pm (.ref c') ctv) args = pure binds) (hloc : ∀ y ∈ binds, scope.names.lookup y.1 = some .local)
    (h : ∀ g L' h₁, (∀ b o, b ∉ news.map (·.1) → s.heap.get? b = some o → g.get? b = some o) → Sub h₀ g → s.heap.objs.size = L' → Fr g L' h₁ (fun y => binds.reverse.lookup y) → News g L' h₁ news → K.In g → Top p loose mean mg mb g →
      wpAny (model prog w) (A.deeper (envX qual scope L' f (.ref c') cl)) (eval body (envX qual scope L' f (.ref c') cl))
        (fun v s' => R (.ok (.ret v)) s')
        (fun e s' => wpAny (model prog w) (A.deeper (envX qual scope L' f (.ref c') cl)) (leaving (envX qual scope L' f (.ref c') cl) e) (fun _ s'' => R (.error e) s'') (fun e' s'' => R (.error e') s'') s')
        { s with heap := h₁, toks := s.toks + binds.length })
    (hco : scope.isCoroutine = false) (hgen : scope.isGenerator = false) (hk : scope.kind = .function)
    (hcell : ∀ x ∈ scope.names, x.2 ≠ .cell) : codeAny (model prog w) A (.call (.ref f) args) R s := by
  have gs := base_of (s := s) I
  refine kla_callFunE hroom ho rfl hco hgen rfl hcd ?_
  rw [hbind]
  refine wpAny_pure (wpAny_newFunctionEnv hcell hloc (fun h₁ hns hsb => ⟨(G.T.nolimit.keeps fun _ _ e => I.sub.get e).fresh _ hsb, ?_⟩) hk)
  show codeAny _ _ (.expr body (envX qual scope s.heap.objs.size f (.ref c') cl)) _ _
  have hk₁ : ∀ b o, s.heap.get? b = some o → h₁.get? b = some o := fun b o e => hsb.extBut b o (Nat.ne_of_lt (Heap.lt_size e)) (Heap.get?_push_of_some _ e)
  exact kla_codeExpr (h _ s.heap.objs.size h₁ (fun b o n e => hideAll_get _ e n) gs rfl ⟨hns, fun b o e => hk₁ b o (of_hideAll _ e), Nat.le_of_eq (hideAll_size _ _)⟩
    (fun p hp => ⟨hk₁ _ _ (I.led p hp).1, Nat.ne_of_lt (Heap.lt_size (I.led p hp).1), hideAll_none _ (List.mem_map_of_mem hp)⟩) (Gd.sub G gs).K (Gd.sub G gs).T)
end
end Mine
end

section
open PySem PySem.W PyProof.Rows PySem.Calls PyProof.V PySem.Spec
set_option Elab.async false
set_option linter.unusedVariables false
set_option maxRecDepth 100000
namespace Mine
section
variable {prog : Program} {w : World} {A : Around} {E : Value → Shared → Prop} {s : Shared} {value slice : PySem.Expr} {l : List UInt8} {t tn : Tok} {h₀ : Heap} {L : Addr} {m : PySem.Str → Option Value} {news : List (Addr × Obj)} {Q : Value → Shared → Prop} {z : Int} {n : Nat}
theorem picked_to (l : List UInt8) (n : Nat) : KBy.picked l.toArray none (some (n : Int)) = (l.take n).toArray := by
  rw [KBc.picked_eq]
  simp only [Option.elim, clipAt_nat, List.drop_zero, Nat.sub_zero, List.size_toArray]
  congr 1
  rcases Nat.le_total n l.length with h | h
  · rw [Nat.min_eq_left h]
  · rw [Nat.min_eq_right h, List.take_of_length_le (Nat.le_refl _), List.take_of_length_le h]
theorem picked_from (l : List UInt8) (n : Nat) : KBy.picked l.toArray (some (n : Int)) none = (l.drop n).toArray := by
  rw [KBc.picked_eq]
  simp only [Option.elim, clipAt_nat, List.size_toArray]
  congr 1
  rcases Nat.le_total n l.length with h | h
  · rw [Nat.min_eq_left h, List.take_of_length_le (by simp)]
  · rw [Nat.min_eq_right h, List.drop_of_length_le (Nat.le_refl _), List.drop_of_length_le h]; simp
theorem bsl_to (hF : Fr h₀ L s.heap m) (hN : News h₀ L s.heap news) (hz : z = (n : Int)) (hl : l.length ≤ 16777216)
    (h : ∀ h' t' k, Fr h₀ L h' m → News h₀ L h' news → Q (.bytes (l.take n).toArray t') { s with heap := h', toks := k })
    (hs : subscripted slice false (.bytes l.toArray t) (.ref s.heap.objs.size) = operate [.ref s.heap.objs.size, .bytes l.toArray t] (getItem (.bytes l.toArray t) (.ref s.heap.objs.size)) := by with_unfolding_all rfl)
    (ht : ∀ r, letTemporaryGo value (.bytes l.toArray t) r = pure () := by intro _; with_unfolding_all rfl) :
    wpAny (model prog w) A (subscriptTail value slice (.bytes l.toArray t) (.ref s.heap.objs.size)) Q E { s with heap := s.heap.push { cls := .type "slice", data := .fields #[.none, .int z tn, .none] } } := by
  subst hz
  refine KBc.slice_K hF hN rfl (.none) (.int _ _) (by rw [KBw.ints_length]; simpa using hl) (fun h' t' k F' N' _ => ?_) hs ht
  rw [picked_to]
  exact h h' t' k F' N'
theorem bsl_from (hF : Fr h₀ L s.heap m) (hN : News h₀ L s.heap news) (hz : z = (n : Int)) (hl : l.length ≤ 16777216)
    (h : ∀ h' t' k, Fr h₀ L h' m → News h₀ L h' news → Q (.bytes (l.drop n).toArray t') { s with heap := h', toks := k })
    (hs : subscripted slice false (.bytes l.toArray t) (.ref s.heap.objs.size) = operate [.ref s.heap.objs.size, .bytes l.toArray t] (getItem (.bytes l.toArray t) (.ref s.heap.objs.size)) := by with_unfolding_all rfl)
    (ht : ∀ r, letTemporaryGo value (.bytes l.toArray t) r = pure () := by intro _; with_unfolding_all rfl) :
    wpAny (model prog w) A (subscriptTail value slice (.bytes l.toArray t) (.ref s.heap.objs.size)) Q E { s with heap := s.heap.push { cls := .type "slice", data := .fields #[.int z tn, .none, .none] } } := by
  subst hz
  refine KBc.slice_K hF hN rfl (.int _ _) (.none) (by rw [KBw.ints_length]; simpa using hl) (fun h' t' k F' N' _ => ?_) hs ht
  rw [picked_from]
  exact h h' t' k F' N'
theorem len_b (hfit : l.length ≤ 100000) (h : Q (.int l.length (s.toks + 1)) { s with toks := s.toks + 1 + 1 }) : wpAny (model prog w) A (call (.builtin "len") [.bytes l.toArray t]) Q E s :=
  len_bytes (by rw [List.size_toArray]; omega) (by rw [List.size_toArray]; exact h)
theorem truthy_b {Q : Bool → Shared → Prop} (hfit : l.length ≤ 100000) (h : Q (!l.isEmpty) { s with toks := s.toks + 1 + 1 }) : wpAny (model prog w) A (truthy (.bytes l.toArray t)) Q E s := by
  refine truthy_bytes (by rw [List.size_toArray]; omega) ?_
  have : (((l.toArray.size : Nat) : Int) != 0) = !l.isEmpty := by cases l <;> simp [bne] <;> omega
  rw [this]; exact h
end
section
variable {M : Model} {A : Around} {E : Value → Shared → Prop} {s : Shared} {Q : Value → Shared → Prop} {q : Addr} {first : List Value} {pos : Pos} {env : Env}
theorem callWith_FH {e : PySem.Expr} {rest : List PySem.Expr} (X : FnAt q s.heap) (h : wpAny M A (spliced (backTo pos (starEach (e :: rest) env))) (fun vs s₁ => Halt (FnAt q s₁.heap ∧ wpAny M A (call (.ref q) (first ++ vs)) Q E s₁)) E s)
    (he : starEach (e :: rest) env = (false, eval e env) :: starEach rest env := by rfl) (hplain : (backTo pos (starEach rest env)).any (·.1) = false := by rfl) :
    wpAny M A (callWith pos (.ref q) first (backTo pos (starEach (e :: rest) env)) []) Q E s := callWith_F X h he hplain
/-- a ledger of two, the second changed -/
theorem news_two {g h h' : Heap} {L a d : Addr} {m : Str → Option Value} {oa od od' : Obj} (F : Fr g L h m) (N : News g L h [(a, oa), (d, od)]) (x : Ext [d] h h') (hne : a ≠ d) (hd : h'.get? d = some od') : Fr g L h' m ∧ News g L h' [(a, oa), (d, od')] := by
  have n1 := N (a, oa) (.head _)
  have n2 := N (d, od) (.tail _ (.head _))
  refine ⟨Fr.ext F x (by simpa using n2.2.1.symm) (by simpa using n2.2.2), fun p hp => ?_⟩
  simp only [List.mem_cons, List.not_mem_nil, or_false] at hp
  rcases hp with rfl | rfl
  · exact ⟨x.keep _ _ (by simpa using hne) n1.1, n1.2⟩
  · exact ⟨hd, n2.2⟩
end
end Mine
end

section
open PySem PySem.W PyProof.Rows PySem.Calls PyProof.V PySem.Spec
set_option Elab.async false
set_option linter.unusedVariables false
set_option maxRecDepth 100000
namespace Mine
open Builtin
/-- the text of octets -/
def latin (l : List UInt8) : PySem.Str := ⟨(l.map (·.toNat)).toArray⟩
theorem lat_args (a b : Value) : argsOk "bytes.decode" ⟨[a, b], []⟩ := by unfold argsOk; kernel_rfl
theorem lat_run1 (a : UInt8) (id : String) : _codecs.runDecoder id _codecs.latin1Decoder none true [a].toArray 0 [] = pure (#[a.toNat], 1) := by kernel_rfl
theorem lat_run2 (a b : UInt8) (id : String) : _codecs.runDecoder id _codecs.latin1Decoder none true [a, b].toArray 0 [] = pure (#[a.toNat, b.toNat], 2) := by kernel_rfl
theorem lat_road (b : Array UInt8) (id : String) : _codecs.decodeRoad id b (PySem.Str.ofString "latin-1") none [] = (_codecs.runDecoder id _codecs.latin1Decoder none true b 0 [] >>= fun r => mkStr ⟨r.1⟩) := by kernel_rfl
theorem lat_entry0 (t te : Tok) : «bytes.decode» ⟨[.bytes ([] : List UInt8).toArray t, .str (PySem.Str.ofString "latin-1") te], []⟩ = (rule "bytes.decode.empty" >>= fun _ => retStr PySem.Str.empty) := by kernel_rfl
theorem lat_entry (c : UInt8) (cs : List UInt8) (t te : Tok) : «bytes.decode» ⟨[.bytes (c :: cs).toArray t, .str (PySem.Str.ofString "latin-1") te], []⟩ =
    (mkStr (PySem.Str.ofString "utf-8") >>= fun _ => mkStr (PySem.Str.ofString "latin-1") >>= fun e => mkStr (PySem.Str.ofString "bytes.decode") >>= fun d =>
    call (.builtin "_codecs.decode.text") [.bytes (c :: cs).toArray t, e, .none, d] >>= fun v => ret v) := by kernel_rfl
theorem lat_text {b : Array UInt8} {t t1 t2 : Tok} {d x : PySem.Str} {n : Nat} (hd : ∀ id, _codecs.runDecoder id _codecs.latin1Decoder none true b 0 [] = pure (x.cps, n)) :
    Meets («_codecs.decode.text» ⟨[.bytes b t, .str (PySem.Str.ofString "latin-1") t1, .none, .str d t2], []⟩) (fun _ R s => x.length ≤ sizeLine ∧ R (.ok (.ret (.str x s.toks))) { s with toks := s.toks + 1 }) := by
  refine .of_wp fun prog w A R s hS => ?_
  obtain ⟨hsz, h⟩ := hS
  show wpAny _ _ (Bytes.bytesLike _ (.bytes b t) >>= fun r => _) _ _ s
  refine wpAny_bind (wpAny_of_eq KBd.like_eq ?_)
  refine wpAny_bind (wpAny_of_eq KBd.held_eq ?_)
  show wpAny _ _ (_codecs.decodeRoad _ b (PySem.Str.ofString "latin-1") none [] >>= fun v => _) _ _ s
  rw [lat_road, hd]
  refine wpAny_bind (wpAny_bind (wpAny_pure ?_))
  exact wpAny_mkStr (wpAny_pure ⟨_, rfl, h⟩) hsz
theorem lat_meets {l : List UInt8} {t te : Tok} (hl : l.length ≤ 2) :
    Meets («bytes.decode» ⟨[.bytes l.toArray t, .str (PySem.Str.ofString "latin-1") te], []⟩) (fun _ R s => ∀ t' k, R (.ok (.ret (.str (latin l) t'))) { s with toks := k }) := by
  have go : ∀ (c : UInt8) (cs : List UInt8) (n : Nat), (c :: cs).length ≤ 2 → (∀ id, _codecs.runDecoder id _codecs.latin1Decoder none true (c :: cs).toArray 0 [] = pure ((latin (c :: cs)).cps, n)) →
      Meets («bytes.decode» ⟨[.bytes (c :: cs).toArray t, .str (PySem.Str.ofString "latin-1") te], []⟩) (fun _ R s => ∀ t' k, R (.ok (.ret (.str (latin (c :: cs)) t'))) { s with toks := k }) := fun c cs n hn hd => by
    refine .of_wp fun prog w A R s h => ?_
    rw [lat_entry]
    refine wpAny_bind (wpAny_mkStr ?_ (by decide))
    refine wpAny_bind (wpAny_mkStr ?_ (by decide))
    refine wpAny_bind (wpAny_mkStr ?_ (by decide))
    refine wpAny_bind (call_function_meets KBd.kind_text KBd.plain_text KBd.entry_text (KBd.args_text _ _ _ _) (lat_text hd) ⟨?_, wpAny_pure ⟨_, rfl, h _ _⟩⟩)
    have : (latin (c :: cs)).length ≤ 2 := by simpa [latin, PySem.Str.length] using hn
    exact Nat.le_trans this (by decide)
  match l, hl with
  | [], _ =>
    refine .of_wp fun prog w A R s h => ?_
    rw [lat_entry0]
    exact wpAny_bind (wpAny_rule (wpAny_bind (wpAny_mkStr (wpAny_pure ⟨_, rfl, h _ _⟩) (by decide))))
  | [a], _ => exact go a [] 1 (by simp) fun id => lat_run1 a id
  | [a, b], _ => exact go a [b] 2 (by simp) fun id => lat_run2 a b id
section
variable {prog : Program} {w : World} {A : Around} {E : Value → Shared → Prop} {s : Shared} {l : List UInt8} {t te : Tok} {Q : Value → Shared → Prop}
theorem truthy_bc {c : UInt8} {Q : Bool → Shared → Prop} (hfit : (c :: l).length ≤ 100000) (h : Q true { s with toks := s.toks + 1 + 1 }) : wpAny (model prog w) A (truthy (.bytes (c :: l).toArray t)) Q E s := truthy_b hfit h
theorem lat_decode (hl : l.length ≤ 2) (h : ∀ t' k, Q (.str (latin l) t') { s with toks := k }) :
    wpAny (model prog w) A (call (.builtin "bytes.decode") [.bytes l.toArray t, .str (PySem.Str.ofString "latin-1") te]) Q E s :=
  call_meets FB.slot_bytes_decode (typeIs_bytes _ _ _) FB.entry_bytes_decode (lat_args _ _) (lat_meets hl) h
end
end Mine
end

section
open PySem PySem.W PyProof.Rows PySem.Calls PyProof.V PySem.Spec
set_option Elab.async false
set_option linter.unusedVariables false
set_option maxRecDepth 100000
namespace Mine
theorem frame_add {g h₁ h2 : Heap} {L P : Addr} {m : Str → Option Value} {tab : Obj} (F : Fr g L h₁ m) (x : Ext [P] h₁ h2) (gP : g.get? P = none) (hL : L ≠ P) (e : h2.get? P = some tab) (ents : List (Addr × Obj))
    (he : ∀ p ∈ ents, h2.get? p.1 = some p.2 ∧ (h₁.get? p.1 = none ∨ ∃ vs, p.2.data = .fields vs)) :
    Fr g L h2 m ∧ ∃ led, News g L h2 ((P, tab) :: led) ∧ (∀ p ∈ led, p ∈ ents) ∧ ∀ h' : Heap, (∀ p ∈ led, h'.get? p.1 = some p.2) → (∀ b o, g.get? b = some o → h'.get? b = some o) → ∀ p ∈ ents, h'.get? p.1 = some p.2 := by
  have F2 : Fr g L h2 m := Fr.ext F x (by simpa using hL) (by simpa using gP)
  refine ⟨F2, ents.filter (fun p => (g.get? p.1).isNone), ?_, fun p hp => (List.mem_filter.mp hp).1, ?_⟩
  · intro p hp
    rcases List.mem_cons.mp hp with rfl | hp
    · exact ⟨e, hL.symm, gP⟩
    · obtain ⟨h1, h2'⟩ := List.mem_filter.mp hp
      refine ⟨(he p h1).1, fun q => ?_, by simpa using h2'⟩
      obtain ⟨oL, es, ep, hLo, hd, _⟩ := F2.ns
      rcases (he p h1).2 with n | ⟨vs, n⟩
      · obtain ⟨oL', _, _, hLo', _⟩ := F.ns
        rw [q, hLo'] at n; cases n
      · have := (he p h1).1
        rw [q, hLo] at this; cases this
        rw [hd] at n; cases n
  · intro h' hl hk p hp
    cases q : g.get? p.1 with
    | none => exact hl p (List.mem_filter.mpr ⟨hp, by simp [q]⟩)
    | some o =>
      have := (he p hp).1
      rw [F2.keep _ _ q] at this; cases this
      exact hk _ _ q
theorem news_ext {g h h' : Heap} {L d : Addr} {m : Str → Option Value} {o o' : Obj} {news news' : List (Addr × Obj)} (F : Fr g L h m) (N : News g L h news) (hm : (d, o) ∈ news) (x : Ext [d] h h') (hd : h'.get? d = some o')
    (hl : ∀ p ∈ news', p = (d, o') ∨ (p ∈ news ∧ p.1 ≠ d)) : Fr g L h' m ∧ News g L h' news' := by
  have n := N _ hm
  refine ⟨Fr.ext F x (by simpa using n.2.1.symm) (by simpa using n.2.2), fun p hp => ?_⟩
  rcases hl p hp with rfl | ⟨h1, h2⟩
  · exact ⟨hd, n.2⟩
  · exact ⟨x.keep _ _ (by simpa using h2) (N p h1).1, (N p h1).2⟩
theorem allLt_mem {d : Nat} {l : List (Addr × Obj)} (h : AllLt d l) : ∀ p ∈ l, @LT.lt Nat _ p.1 d := by
  induction l with
  | nil => intro p hp; cases hp
  | cons q r ih =>
    intro p hp
    rcases List.mem_cons.mp hp with rfl | hp
    · exact h.1
    · exact ih h.2 p hp
section
variable {prog : Program} {w : World} {A : Around} {E : Value → Shared → Prop} {s : Shared} {env : Env}
/-- append to a list of the ledger -/
theorem append_N {g : Heap} {L l : Addr} {m : Str → Option Value} {vs : Array Value} {n : Nat} {v : Value} {rest : List (Addr × Obj)} {Q : Value → Shared → Prop} (F : Fr g L s.heap m) (N : News g L s.heap ((l, { cls := .type "list", data := .seq vs n }) :: rest))
    (hne : ∀ p ∈ rest, p.1 ≠ l) (hz : vs.size ≤ sizeLine) (h : ∀ h' n', Fr g L h' m → News g L h' ((l, { cls := .type "list", data := .seq (vs.push v) n' }) :: rest) → Q .none { s with heap := h' }) :
    wpAny (model prog w) A (call (.builtin "list.append") [.ref l, v]) Q E s := by
  have n0 := N _ (.head _)
  refine wpAny_list_append_plain (hsz := hz) ⟨n, n0.1⟩ fun h' hl hs => ?_
  obtain ⟨n', hl⟩ := hl
  have x : Ext [l] s.heap h' := ⟨fun b o nb e => hs.extBut b o (by simpa using nb) e⟩
  refine h h' n' (Fr.ext F x (by simpa using n0.2.1.symm) (by simpa using n0.2.2)) fun p hp => ?_
  rcases List.mem_cons.mp hp with rfl | hp
  · exact ⟨hl, n0.2⟩
  · have n1 := N p (.tail _ hp)
    exact ⟨x.keep _ _ (by simpa using hne p hp) n1.1, n1.2⟩
/-- a while of a frame, by an invariant over frame and ledger -/
theorem whileN {test : PySem.Expr} {body : List Stmt} {pos : Pos} {g : Heap} {Q : Flow → Shared → Prop} (J : Nat → (Str → Option Value) → List (Addr × Obj) → Heap → Prop) {m : Str → Option Value} {news : List (Addr × Obj)} {n : Nat}
    (F : Fr g env.locals s.heap m) (N : News g env.locals s.heap news) (h0 : J n m news s.heap)
    (turn : ∀ n m news h tk E', Fr g env.locals h m → News g env.locals h news → J n m news h →
      wpAny (model prog w) A (isTrue test env (eval test env)) (fun b s₂ =>
        if b then wpAny (model prog w) A (execs body env) (fun f s₃ => Halt (f = .next ∧ ∃ n' m' news' h' tk', n' < n ∧ s₃ = { s with heap := h', toks := tk' } ∧ Fr g env.locals h' m' ∧ News g env.locals h' news' ∧ J n' m' news' h')) E' s₂
        else Q .next s₂) E' { s with heap := h, toks := tk }) :
    wpAny (model prog w) A (exec (.While test body [] pos) env) Q E s := by
  refine wpAny_While (codeAny_whileLoop (fun n s' => ∃ m news h tk, s' = { s with heap := h, toks := tk } ∧ Fr g env.locals h m ∧ News g env.locals h news ∧ J n m news h) ?_ n ⟨m, news, s.heap, s.toks, rfl, F, N, h0⟩)
  rintro n s' ⟨m, news, h, tk, rfl, F, N, hJ⟩
  refine wpAny_mono (turn n m news h tk _ F N hJ) (fun b s₂ h₂ => ?_) fun _ _ e => e
  cases b with
  | false =>
    simp only [Bool.false_eq_true, if_false] at h₂ ⊢
    exact wpAny_pure h₂
  | true =>
    simp only [if_true] at h₂ ⊢
    refine wpAny_mono h₂ (fun f s₃ h₃ => ?_) fun _ _ e => e
    obtain ⟨rfl, n', m', news', h', tk', hn, rfl, F', N', hJ'⟩ := h₃
    exact ⟨n', hn, m', news', h', tk', rfl, F', N', hJ'⟩
/-- .. where the frame's names stay -/
theorem whileM {test : PySem.Expr} {body : List Stmt} {pos : Pos} {g : Heap} {Q : Flow → Shared → Prop} (J : Nat → List (Addr × Obj) → Prop) {m : Str → Option Value} {news : List (Addr × Obj)} {n : Nat}
    (F : Fr g env.locals s.heap m) (N : News g env.locals s.heap news) (h0 : J n news)
    (turn : ∀ n news h tk E', Fr g env.locals h m → News g env.locals h news → J n news →
      wpAny (model prog w) A (isTrue test env (eval test env)) (fun b s₂ =>
        if b then wpAny (model prog w) A (execs body env) (fun f s₃ => Halt (f = .next ∧ ∃ n' news' h' tk', n' < n ∧ s₃ = { s with heap := h', toks := tk' } ∧ Fr g env.locals h' m ∧ News g env.locals h' news' ∧ J n' news')) E' s₂
        else Q .next s₂) E' { s with heap := h, toks := tk }) :
    wpAny (model prog w) A (exec (.While test body [] pos) env) Q E s := by
  refine whileN (fun n m' news h => m' = m ∧ J n news) F N ⟨rfl, h0⟩ ?_
  rintro n m' news h tk E' F' N' ⟨rfl, hJ⟩
  refine wpAny_mono (turn n news h tk E' F' N' hJ) (fun b s₂ h₂ => ?_) fun _ _ e => e
  cases b with
  | false => exact h₂
  | true =>
    simp only [if_true] at h₂ ⊢
    refine wpAny_mono h₂ (fun f s₃ h₃ => ?_) fun _ _ e => e
    obtain ⟨e, n', news', h', tk', hn, e2, F'', N'', hJ'⟩ := h₃
    exact ⟨e, n', _, news', h', tk', hn, e2, F'', N'', rfl, hJ'⟩
end
end Mine
end

section
open PySem PySem.W PyProof.Rows PySem.Calls PyProof.V PySem.Spec
set_option Elab.async false
set_option linter.unusedVariables false
set_option maxRecDepth 100000
namespace Mine
section
variable {prog : Program} {w : World} {s : Shared}
theorem Src.range2 {r : Addr} {a b : Int} {n : Nat} {t u v : Tok} (hr : IsRange s.heap r a b 1 t u v) (hn : n < 2 ^ 40) (hb : b = a + (n : Int)) (ha : 0 ≤ a ∧ a < 2 ^ 40) : Src prog w s (.ref r) n (fun i v => ∃ t, v = .int (a + (i : Int)) t) [] := by
  intro A E Q hA k
  have e : Builtin.Range.rangeSize a b 1 = (n : Int) := by rw [rangeSize_one]; split <;> omega
  refine wpAny_pyIter_range hr (small_one (by omega) (by omega) (by omega) (by omega)) ?_
  rw [e]
  have W := Walks.range (prog := prog) (w := w) hA s.heap.objs.size a 1 n
  have W' : Walks prog w A s.heap.objs.size [s.heap.objs.size] [s.heap.objs.size] n (fun i v => ∃ t, v = .int (a + (i : Int)) t) (fun i h => IsRangeIter h s.heap.objs.size (a + (i : Nat) * 1) ((n : Int) - (i : Nat)) 1) := by
    have : (fun (i : Nat) (v : Value) => ∃ t, v = Value.int (a + (i : Int)) t) = fun (i : Nat) v => ∃ t, v = Value.int (a + (i : Int) * 1) t := by funext i v; rw [Int.mul_one]
    rw [this]; exact W
  refine k _ _ W' (fun i h st => ?_) ?_
  · have st' : h.get? s.heap.objs.size = some _ := st
    rw [st']; rfl
  · show (s.heap.push _).get? _ = some _
    rw [Heap.get?_push_size _ rfl]
    simp
theorem Src.range {r : Addr} {z : Int} {n : Nat} {t u v : Tok} (hr : IsRange s.heap r 0 z 1 t u v) (hz : z = (n : Int)) (hn : n < 2 ^ 40) : Src prog w s (.ref r) n (fun i v => ∃ t, v = .int (i : Int) t) [] := by
  have := Src.range2 (prog := prog) (w := w) hr hn (by omega) (by omega)
  simpa using this
end
section
variable {prog : Program} {w : World} {A : Around} {E : Value → Shared → Prop} {s : Shared} {env : Env}
/-- what a turn's body leaves -/
def ForEnd (g : Heap) (L I : Addr) (oI : Obj) (J : (Str → Option Value) → List (Addr × Obj) → Prop) (s₁ : Shared) (Q : Flow → Shared → Prop) (f : Flow) (s₃ : Shared) : Prop := match f with
  | .next => Halt (∃ m' news' h' tk', s₃ = { s₁ with heap := h', toks := tk' } ∧ Fr g L h' m' ∧ News g L h' ((I, oI) :: news') ∧ (∀ p ∈ news', p.1 ≠ I) ∧ J m' news')
  | .ret v => Q (.ret v) s₃
  | _ => False
/-- a for over a source, by an invariant over frame and ledger -/
theorem forN {x : Str} {px pos : Pos} {iter : PySem.Expr} {body : List Stmt} {g : Heap} {Q : Flow → Shared → Prop}
    (hA : A.handled = none) (hx : env.kindOf x = some .local) (hk : env.scope.kind = .function)
    (h : wpAny (model prog w) A (eval iter env) (fun xv s₁ => Halt (∃ n P fp m news, ∃ J : Nat → (Str → Option Value) → List (Addr × Obj) → Prop, Src prog w s₁ xv n P fp ∧ (∀ b ∈ fp, (g.get? b).isSome = true) ∧ Fr g env.locals s₁.heap m ∧ News g env.locals s₁.heap news ∧ J 0 m news ∧
      (∀ I, s₁.heap.get? I = none → I = s₁.heap.objs.size → ∀ i v m news h tk oI E', i < n → P i v → J i m news → (∀ p ∈ news, p.1 ≠ I) → Fr g env.locals h (fun y => if y = x then some v else m y) → News g env.locals h ((I, oI) :: news) →
        wpAny (model prog w) A (execs body env) (ForEnd g env.locals I oI (J (i + 1)) s₁ Q) E' { s₁ with heap := h, toks := tk }) ∧
      (∀ m news h tk, J n m news → Fr g env.locals h m → News g env.locals h news → Q .next { s₁ with heap := h, toks := tk }))) E s)
    (hs : ∀ x, foldedSetIterable iter env x = pure x := by intro _; rfl) :
    wpAny (model prog w) A (exec (.For (.Name x px) iter body [] pos) env) Q E s := by
  refine wpAny_For (wpAny_mono h (fun xv s₁ h₁ => ?_) fun _ _ e => e) hs
  obtain ⟨n, P, fp, m, news, J, src, hfp, F, N, h0, turn, done⟩ := h₁
  refine src A E _ hA fun o St W hal hst => ?_
  have hI0 : s₁.heap.get? s₁.heap.objs.size = none := get_ge (Nat.le_refl _)
  have gI : g.get? s₁.heap.objs.size = none := get_none_sub F.keep hI0
  have LI : env.locals ≠ s₁.heap.objs.size := by
    obtain ⟨oL, _, _, hL, _⟩ := F.ns
    exact ne_of_get hL hI0
  have hfpI : ∀ b ∈ fp, b ≠ s₁.heap.objs.size := fun b hb q => by
    have := hfp b hb
    rw [q, gI] at this; cases this
  refine codeAny_forLoop_any (fun k s' => ∃ m news h tk oI i, s' = { s₁ with heap := h, toks := tk } ∧ Fr g env.locals h m ∧ News g env.locals h ((s₁.heap.objs.size, oI) :: news) ∧ (∀ p ∈ news, p.1 ≠ s₁.heap.objs.size) ∧ J i m news ∧ St i h ∧ i ≤ n ∧ k = n + 1 - i) ?_ (n + 1) ?_
  · rintro k s' ⟨m, news, h, tk, oI, i, rfl, F, N, hne, hJ, hst, hi, rfl⟩
    have NI := N _ (.head _)
    by_cases hlt : i < n
    · refine W.item i _ _ _ hlt hst fun v h₂ tk₂ hP hst₂ hk₂ => ?_
      obtain ⟨oI₂, hoI⟩ := Option.isSome_iff_exists.mp (hal _ _ hst₂)
      have x₂ : Ext [s₁.heap.objs.size] h h₂ := ⟨fun b o nb e => hk₂ b o nb e⟩
      obtain ⟨F₂, N₂⟩ := news_ext (news' := (s₁.heap.objs.size, oI₂) :: news) F N (.head _) x₂ hoI (fun p hp => by
        rcases List.mem_cons.mp hp with rfl | hp
        · exact .inl rfl
        · exact .inr ⟨.tail _ hp, hne p hp⟩)
      refine wpAny_of_eq (a := ()) (by rfl) ?_
      refine wpAny_assign_Name (wpAny_storeName_local hx F₂.ns (fun h₃ hn₃ hs₃ => ?_) (by rw [hk]; rfl))
      have F₃ := F₂.set hn₃ hs₃
      have N₃ := N₂.set hs₃
      have st₃ : St (i + 1) h₃ := W.frame _ _ _ hst₂ fun b hb o e => hs₃.extBut b o (fun q => by
        rcases List.mem_cons.mp hb with rfl | hb
        · exact LI q.symm
        · have := hfp b hb
          rw [q] at this
          have hge : g.get? env.locals = none := get_ge F.above
          rw [hge] at this; cases this) e
      refine wpAny_mono (turn _ hI0 rfl i v m news h₃ _ oI₂ _ hlt hP hJ hne F₃ N₃) (fun f s₃ h₃' => ?_) fun _ _ e => e
      cases f with
      | next =>
        obtain ⟨m', news', h', tk', rfl, F', N', hne', hJ'⟩ := h₃'
        refine ⟨n + 1 - (i + 1), by omega, m', news', h', tk', oI₂, i + 1, rfl, F', N', hne', hJ', ?_, hlt, rfl⟩
        refine W.frame _ _ _ st₃ fun b hb o e => ?_
        rcases List.mem_cons.mp hb with rfl | hb
        · have e1 := (N₃ _ (.head _)).1
          dsimp only at e1
          rw [e1] at e; cases e
          exact (N' _ (.head _)).1
        · obtain ⟨o', ho'⟩ := Option.isSome_iff_exists.mp (hfp b hb)
          have e1 := F₃.keep _ _ ho'
          rw [e1] at e; cases e
          exact F'.keep _ _ ho'
      | ret v => exact h₃'
      | brk => exact h₃'.elim
      | cont => exact h₃'.elim
    · have hin : i = n := by omega
      subst hin
      refine W.done _ _ _ hst fun h₂ tk₂ hk₂ => ?_
      have x₂ : Ext [s₁.heap.objs.size] h h₂ := ⟨fun b o nb e => hk₂ b o nb e⟩
      refine wpAny_pure (done m news h₂ tk₂ hJ (Fr.ext F x₂ (by simpa using LI) (by simpa using gI)) fun p hp => ⟨x₂.keep _ _ (by simpa using hne p hp) (N p (.tail _ hp)).1, (N p (.tail _ hp)).2⟩)
  · obtain ⟨oI, hoI⟩ := Option.isSome_iff_exists.mp (hal _ _ hst)
    refine ⟨m, news, _, s₁.toks, oI, 0, rfl, F.push _, fun p hp => ?_, fun p hp => ?_, h0, hst, Nat.zero_le _, rfl⟩
    · rcases List.mem_cons.mp hp with rfl | hp
      · exact ⟨hoI, LI.symm, gI⟩
      · exact ⟨Heap.get?_push_of_some _ (N p hp).1, (N p hp).2⟩
    · exact ne_of_get (N p hp).1 hI0
/-- a cell of the frame is set -/
theorem storeCell {x : Str} {v : Value} {c L : Addr} {g : Heap} {m : Str → Option Value} {o : Obj} {v₀ : Option Value} {news : List (Addr × Obj)} {Q : Unit → Shared → Prop} (F : Fr g L s.heap m) (N : News g L s.heap news) (hk : env.scope.kind = .function) (hx : env.kindOf x = some .cell)
    (hc : env.cells.lookup x = some c) (hm : (c, o) ∈ news) (hd : o.data = .cell v₀)
    (h : ∀ h' o', o'.data = .cell (some v) → (∀ news', (∀ p ∈ news', p = (c, o') ∨ (p ∈ news ∧ p.1 ≠ c)) → News g L h' news') → Fr g L h' m → Q () { s with heap := h' }) :
    wpAny (model prog w) A (storeName env x v) Q E s := by
  refine wpAny_storeName_cell hk hx hc ⟨o, (N _ hm).1, hd⟩ fun h' hv hs => ?_
  obtain ⟨o', ho', hd'⟩ := hv
  have ex : Ext [c] s.heap h' := ⟨fun b ob nb e => hs.extBut b ob (by simpa using nb) e⟩
  exact h h' o' hd' (fun news' hl => (news_ext F N hm ex ho' hl).2) (news_ext (news' := []) F N hm ex ho' (by simp)).1
end
end Mine
end

section
open PySem PySem.W PyProof.Rows PySem.Calls PyProof.V PySem.Spec
set_option Elab.async false
set_option linter.unusedVariables false
set_option maxRecDepth 100000
namespace Mine
open Builtin
/-- a tree that only looks: what it comes to -/
def runQ {α : Type} (K : Addr → Option Obj) : Nat → Sem α → Option α
  | 0, _ => none
  | n + 1, t => match t with
    | .pure a => some a
    | .rule _ k => runQ K n (k ())
    | .at _ k => runQ K n (k ())
    | .point _ k => runQ K n (k ())
    | .load a _ k => match K a with
      | some o => runQ K n (k o)
      | none => none
    | _ => none
theorem runQ_wp {α : Type} {M : Model} {Γ : PySem.Ctx} {K : Addr → Option Obj} {Q : α → Pos → Shared → Prop} {E : Value → Pos → Shared → Prop} {s : Shared} (hK : ∀ a o, K a = some o → s.heap.get? a = some o) :
    ∀ (n : Nat) (t : Sem α) (p : Pos) {a : α}, runQ K n t = some a → (∀ p, Q a p s) → Sem.wp M Γ t Q E p s
  | 0, _, _, _, h, _ => by cases h
  | n + 1, t, p, a, h, hq => by
    cases t with
    | pure b => cases h; exact hq p
    | rule _ k => exact runQ_wp hK n (k ()) p h hq
    | «at» q k => exact runQ_wp hK n (k ()) q h hq
    | point _ k => exact runQ_wp hK n (k ()) p h hq
    | load b q k =>
      simp only [runQ] at h
      split at h
      · rename_i o e; exact ⟨o, hK _ _ e, runQ_wp hK n (k o) p h hq⟩
      · cases h
    | _ => cases h
theorem runQ_any {α : Type} {M : Model} {A : Around} {K : Addr → Option Obj} {Q : α → Shared → Prop} {E : Value → Shared → Prop} {s : Shared} {t : Sem α} {a : α} {n : Nat} (h : runQ K n t = some a) (hK : ∀ a o, K a = some o → s.heap.get? a = some o) (hq : Q a s) :
    wpAny M A t Q E s := fun Γ p _ => runQ_wp hK n t p h fun _ => hq
theorem plainAttrs_pat : PlainAttrs "re.Pattern" :=
  ⟨⟨"object.__getattribute__", by rw [typeLookup_type, builtinLookup_eq_fast]; kernel_rfl, by decide +kernel⟩, by rw [typeLookup_type, builtinLookup_eq_fast]; kernel_rfl⟩
theorem slot_pat_search : Slot "re.Pattern" "search" "re.Pattern.search" :=
  .of (owner := "re.Pattern") (n := "search") (by rw [typeLookup_type, builtinLookup_eq_fast]; kernel_rfl) (by decide +kernel) (by decide +kernel) (by decide +kernel)
    (by first | exact .inl (by decide +kernel) | exact .inr (by decide +kernel)) (by rw [isSubtype_type]; kernel_rfl)
theorem type_pat_search : typeOf (.builtin "re.Pattern.search") = pure (.type "method_descriptor") := by show builtinType _ = _; rw [builtinType_eq_fast]; kernel_rfl
theorem entry_pat_search : entryFor table "re.Pattern.search" = some Builtin.«re.Pattern.search» := entryFor_of_tree (by kernel_rfl)
theorem args_pat_search (a b : Value) : argsOk "re.Pattern.search" ⟨[a, b], []⟩ := by unfold argsOk; kernel_rfl
end Mine
end

section
open PySem PySem.W PyProof.Rows PySem.Calls PyProof.V PySem.Spec
set_option Elab.async false
set_option linter.unusedVariables false
set_option maxRecDepth 100000
namespace Mine
theorem peekA_raw {α : Type} {K : Frag} {M : Model} {A : Around} {E : Value → Shared → Prop} {Q : α → Shared → Prop} {s : Shared} {o : Obj} (X : K.In s.heap) :
    ∀ (t : Sem α) (g : Addr → Sem α), peekA K ⟨M.prog, M.w.params⟩ t = some (o, g) → wpAny M A (g s.heap.objs.size) Q E { s with heap := s.heap.push o } → wpAny M A t Q E s := by
  intro t
  induction t with
  | rule _ k ih => intro g e q Γ p hΓ; exact ih () g e q Γ p hΓ
  | point _ k ih => intro g e q Γ p hΓ; exact ih () g e q Γ p hΓ
  | ask k ih => intro g e q Γ p hΓ; exact ih _ g e q Γ p hΓ
  | load a _ k ih =>
    intro g e q Γ p hΓ
    simp only [peekA] at e
    split at e
    · rename_i ob ho; exact ⟨ob, X _ _ ho, ih ob g e q Γ p hΓ⟩
    · cases e
  | alloc ob k _ =>
    intro g e q
    have e : some (ob, k) = some (o, g) := e
    obtain ⟨e1, e2⟩ := Prod.mk.inj (Option.some.inj e)
    subst e1
    subst e2
    show wpAny M A (alloc ob >>= k) Q E s
    exact wpAny_bind (wpAny_alloc q)
  | _ => intro g e; cases e
section
variable {prog : Program} {w : World} {A : Around} {s : Shared} {K : Frag} {p : Program} {loose : List Str} {mean : ExcName → Option Value} {mg mb : Str → Option Value} {h₀ : Heap} {news : List (Addr × Obj)}
  {R : Result → Shared → Prop} {name qual : Str} {params : Arguments} {body : List Stmt} {scope : Scope} {dV kV doc pm cdv ct oc : Value} {an od : Option Addr} {osl : Array (Option Value)} {f : Addr} {args : Args}
/-- a def whose binding makes one object (its dict of further keywords) is entered -/
theorem code_rawD {bd : Addr → List (Str × Value)} {PD : Obj → Prop} (G : Gd K p loose mean mg mb h₀) (I : In0 h₀ s.heap news)
    (ho : K.lookup f = some ⟨oc, od, .func (fnOf name qual params body scope dV kV doc pm an cdv ct), osl⟩) (hcd : codeIn K cdv qual = true) (hroom : A.depth < recursionLimit)
    (hbind : ∀ (A' : Around) (E' : Value → Shared → Prop) (Q' : List (Str × Value) → Shared → Prop), (∀ d od h' tk, PD od → Sub s.heap h' → s.heap.objs.size ≤ d → h'.get? d = some od → Q' (bd d) { s with heap := h', toks := tk }) →
      wpAny (model prog w) A' (bindArgs (fnOf name qual params body scope dV kV doc pm an cdv ct) args) Q' E' s) (hloc : ∀ d, ∀ y ∈ bd d, scope.names.lookup y.1 = some .local)
    (h : ∀ g L' h₁ d od tk, PD od → (∀ b o, b ∉ news.map (·.1) → s.heap.get? b = some o → g.get? b = some o) → Sub h₀ g → s.heap.objs.size ≤ d → (∀ p ∈ news, p.1 ≠ d) →
      Fr g L' h₁ (fun y => (bd d).reverse.lookup y) → News g L' h₁ ((d, od) :: news) → K.In g → Top p loose mean mg mb g →
      wpAny (model prog w) (A.deeper (envOf qual scope L' f cdv)) (execs body (envOf qual scope L' f cdv))
        (fun fl s' => R (.ok (.ret (match fl with | .ret v => v | _ => .none))) s')
        (fun e s' => wpAny (model prog w) (A.deeper (envOf qual scope L' f cdv)) (leaving (envOf qual scope L' f cdv) e) (fun _ s'' => R (.error e) s'') (fun e' s'' => R (.error e') s'') s')
        { s with heap := h₁, toks := tk })
    (hco : scope.isCoroutine = false) (hgen : scope.isGenerator = false) (hk : scope.kind = .function)
    (hcell : ∀ x ∈ scope.names, x.2 ≠ .cell) : codeAny (model prog w) A (.call (.ref f) args) R s := by
  refine codeAny_call_function (fd := fnOf name qual params body scope dV kV doc pm an cdv ct) hroom (I.sub.get (G.K _ _ ho)) rfl hco hgen rfl (codeRec_of (fun a o e => I.sub.get (G.K a o e)) hcd) (hbind _ _ _ fun d od h' tk hP hx hdge hd => ?_)
  have hdn : s.heap.get? d = none := get_ge hdge
  have I2 : In0 h₀ h' ((d, od) :: news) := ⟨I.sub.trans' hx, fun p hp => by
    rcases List.mem_cons.mp hp with rfl | hp
    · exact ⟨hd, get_none_sub (fun b o e => I.sub.get e) hdn⟩
    · exact ⟨hx.get (I.led p hp).1, (I.led p hp).2⟩⟩
  have gs := base_of (s := { s with heap := h' }) I2
  refine wpAny_newFunctionEnv hcell (hloc d) (fun h₁ hns hsb => ⟨((G.T.nolimit.keeps fun _ _ e => I.sub.get e).keeps fun _ _ e => hx.get e).fresh _ hsb, codeAny_func ?_⟩) hk
  have hk₁ : ∀ b o, h'.get? b = some o → h₁.get? b = some o := fun b o e => hsb.extBut b o (Nat.ne_of_lt (Heap.lt_size e)) (Heap.get?_push_of_some _ e)
  refine h _ h'.objs.size h₁ d od _ hP (fun b o n e => hideAll_get _ (hx.get e) fun q => ?_) gs hdge (fun p hp => ne_of_get (I.led p hp).1 hdn) ⟨hns, fun b o e => hk₁ b o (of_hideAll _ e), Nat.le_of_eq (hideAll_size _ _)⟩
    (fun p hp => ⟨hk₁ _ _ (I2.led p hp).1, Nat.ne_of_lt (Heap.lt_size (I2.led p hp).1), hideAll_none _ (List.mem_map_of_mem hp)⟩) (Gd.sub G gs).K (Gd.sub G gs).T
  rcases List.mem_cons.mp q with rfl | q
  · rw [hdn] at e; cases e
  · exact n q
end
end Mine
end

section
open PySem PySem.W PyProof.Rows PySem.Calls
set_option Elab.async false
set_option linter.unusedVariables false
set_option maxRecDepth 100000
namespace Mine
theorem compTurn_in (elt target iter : PySem.Expr) (ifs : List PySem.Expr) (g0 : Comprehension) (scope : Scope) (pos : Pos) (it acc : Value) (env : Env) :
    compTurn (.ListComp elt [g0, ⟨target, iter, ifs, 0⟩] scope pos) 1 it acc env = (do
      standAt iter.pos
      match ← pyNext it with
      | none => pure (.done .next)
      | some v =>
        letOwnedTupleGo target it v
        assign target env v
        let mut ok := true
        for c in ifs do
          if ok then ok ← isTrue c env (eval c env)
        if ok then
          (do let _ ← call (.builtin "list.append") [acc, ← eval elt env])
        again (.compLoop (.ListComp elt [g0, ⟨target, iter, ifs, 0⟩] scope pos) 1 it acc env)) := by rfl
section
variable {prog : Program} {w : World} {A : Around} {E : Value → Shared → Prop} {R : Result → Shared → Prop} {s : Shared}
theorem inner_loop {elt target iter : PySem.Expr} {ifs : List PySem.Expr} {g0 : Comprehension} {scope : Scope} {pos : Pos} {it acc : Value} {env : Env} (I : Nat → Shared → Prop)
    (turn : ∀ n s, I n s → wpAny (model prog w) A (pyNext it) (fun r s₁ => match r with
      | none => R (.ok .next) s₁
      | some v => wpAny (model prog w) A (assign target env v) (fun _ s₂ =>
          wpAny (model prog w) A (testsOf ifs env) (fun ok s₃ =>
            if ok = true then wpAny (model prog w) A (eval elt env) (fun x s₄ =>
              wpAny (model prog w) A (call (.builtin "list.append") [acc, x]) (fun _ s₅ => ∃ m, m < n ∧ I m s₅) (notedBy (model prog w) A env fun e s' => R (.error e) s') s₄) (notedBy (model prog w) A env fun e s' => R (.error e) s') s₃
            else ∃ m, m < n ∧ I m s₃) (notedBy (model prog w) A env fun e s' => R (.error e) s') s₂) (notedBy (model prog w) A env fun e s' => R (.error e) s') s₁) (notedBy (model prog w) A env fun e s' => R (.error e) s') s)
    (n : Nat) (h : I n s) (ht : ∀ v, letOwnedTupleGo target it v = pure () := by intro _; rfl) :
    codeAny (model prog w) A (.compLoop (.ListComp elt [g0, ⟨target, iter, ifs, 0⟩] scope pos) 1 it acc env) R s := by
  refine codeAny_loop rfl I (fun n s hI => ?_) n h
  show wpAny _ A ((compTurn (.ListComp elt [g0, ⟨target, iter, ifs, 0⟩] scope pos) 1 it acc env).onRaise (fun x => do noteFrame x env; theTreesLotGoes x)) _ _ s
  refine wpAny_noted ?_
  rw [compTurn_in]
  refine wpAny_bind (wpAny_standAt (wpAny_bind (wpAny_mono (turn n s hI) (fun r s₁ h₁ => ?_) fun _ _ h' => h')))
  cases r with
  | none => exact wpAny_pure h₁
  | some v =>
    refine wpAny_bind (wpAny_of_eq (ht v) ?_)
    refine wpAny_bind (wpAny_mono h₁ (fun _ s₂ h₂ => wpAny_bind (wpAny_mono h₂ (fun ok s₃ h₃ => ?_) fun _ _ h' => h')) fun _ _ h' => h')
    cases ok with
    | false => exact wpAny_pure ⟨rfl, h₃⟩
    | true =>
      exact wpAny_bind (wpAny_bind (wpAny_mono h₃ (fun x s₄ h₄ => wpAny_bind (wpAny_mono h₄ (fun _ s₅ h₅ => wpAny_pure (wpAny_pure ⟨rfl, h₅⟩)) fun _ _ h' => h')) fun _ _ h' => h'))
theorem inner_start {elt target iter : PySem.Expr} {ifs : List PySem.Expr} {g0 : Comprehension} {scope : Scope} {pos : Pos} {it acc : Value} {env : Env}
    (h0 : codeAny (model prog w) A (.compLoop (.ListComp elt [g0, ⟨target, iter, ifs, 0⟩] scope pos) 1 it acc env) R s)
    (h : wpAny (model prog w) A (pyIter it) (fun it' s' => codeAny (model prog w) A (.compLoop (.ListComp elt [g0, ⟨target, iter, ifs, 0⟩] scope pos) 1 it' acc env) R s')
      (notedBy (model prog w) A env fun x s' => R (.error x) s') s) :
    codeAny (model prog w) A (.compStart (.ListComp elt [g0, ⟨target, iter, ifs, 0⟩] scope pos) 1 it acc env) R s := by
  refine codeAny_of_tree ?_
  show wpAny _ _ ((compStart (.ListComp elt [g0, ⟨target, iter, ifs, 0⟩] scope pos) 1 it acc env).onRaise (fun x => do noteFrame x env; standAt theWindowsPlace)) _ _ s
  refine wpAny_notedAt ?_
  unfold compStart
  show wpAny _ _ (ask >>= _) _ _ s
  refine wpAny_bind (wpAny_askSetting (wpAny_ite ?_))
  split
  · first
      | exact wpAny_bind (wpAny_pure (wpAny_pure (And.intro rfl h0)))
      | exact wpAny_pure (And.intro rfl h0)
  · first
      | exact wpAny_bind (wpAny_rule (wpAny_bind (wpAny_standAt (wpAny_bind (wpAny_mono h (fun it' s' h' => wpAny_pure (And.intro rfl h')) fun _ _ x => x)))))
      | (refine wpAny_bind (wpAny_rule ?_); show wpAny _ _ (standAt iter.pos >>= _) _ _ s; exact wpAny_bind (wpAny_standAt (wpAny_bind (wpAny_mono h (fun it' s' h' => wpAny_pure (And.intro rfl h')) fun _ _ x => x))))
theorem compTurn_out (elt target iter : PySem.Expr) (ifs : List PySem.Expr) (g1 : Comprehension) (hg1 : g1.is_async = 0) (scope : Scope) (pos : Pos) (it acc : Value) (env : Env) :
    compTurn (.ListComp elt [⟨target, iter, ifs, 0⟩, g1] scope pos) 0 it acc env = (do
      standAt iter.pos
      match ← pyNext it with
      | none => pure (.done .next)
      | some v =>
        letOwnedTupleGo target it v
        assign target env v
        let mut ok := true
        for c in ifs do
          if ok then ok ← isTrue c env (eval c env)
        if ok then
          let x ← eval g1.iter env
          standAt g1.iter.pos
          let x ← foldedSetIterable g1.iter env x
          let _ ← runOwn (.compStart (.ListComp elt [⟨target, iter, ifs, 0⟩, g1] scope pos) 1 (← holding [x] (pyIter x)) acc env) env
        again (.compLoop (.ListComp elt [⟨target, iter, ifs, 0⟩, g1] scope pos) 0 it acc env)) := by
  obtain ⟨t1, i1, f1, a1⟩ := g1
  have : a1 = 0 := hg1
  subst this
  rfl
theorem outer_loop {elt target iter : PySem.Expr} {ifs : List PySem.Expr} {g1 : Comprehension} {scope : Scope} {pos : Pos} {it acc : Value} {env : Env} (hg1 : g1.is_async = 0) (hs : ∀ x, foldedSetIterable g1.iter env x = pure x) (I : Nat → Shared → Prop)
    (turn : ∀ n s, I n s → ∀ N : Value → Shared → Prop, wpAny (model prog w) A (pyNext it) (fun r s₁ => match r with
      | none => R (.ok .next) s₁
      | some v => wpAny (model prog w) A (assign target env v) (fun _ s₂ =>
          wpAny (model prog w) A (testsOf ifs env) (fun ok s₃ =>
            if ok = true then wpAny (model prog w) A (eval g1.iter env) (fun x s₄ => wpAny (model prog w) A (pyIter x) (fun it1 s₅ => ∀ R1 : Result → Shared → Prop, (∀ s', (∃ m, m < n ∧ I m s') → R1 (.ok .next) s') →
              codeAny (model prog w) A (.compStart (.ListComp elt [⟨target, iter, ifs, 0⟩, g1] scope pos) 1 it1 acc env) R1 s₅) N s₄) N s₃
            else ∃ m, m < n ∧ I m s₃) N s₂) N s₁) N s)
    (n : Nat) (h : I n s) (ht : ∀ v, letOwnedTupleGo target it v = pure () := by intro _; rfl) :
    codeAny (model prog w) A (.compLoop (.ListComp elt [⟨target, iter, ifs, 0⟩, g1] scope pos) 0 it acc env) R s := by
  refine codeAny_loop rfl I (fun n s hI => ?_) n h
  show wpAny _ A ((compTurn (.ListComp elt [⟨target, iter, ifs, 0⟩, g1] scope pos) 0 it acc env).onRaise (fun x => do noteFrame x env; theTreesLotGoes x)) _ _ s
  refine wpAny_noted ?_
  rw [compTurn_out _ _ _ _ _ hg1]
  refine wpAny_bind (wpAny_standAt (wpAny_bind (wpAny_mono (turn n s hI _) (fun r s₁ h₁ => ?_) fun _ _ h' => h')))
  cases r with
  | none => exact wpAny_pure h₁
  | some v =>
    refine wpAny_bind (wpAny_of_eq (ht v) ?_)
    refine wpAny_bind (wpAny_mono h₁ (fun _ s₂ h₂ => wpAny_bind (wpAny_mono h₂ (fun ok s₃ h₃ => ?_) fun _ _ h' => h')) fun _ _ h' => h')
    cases ok with
    | false => exact wpAny_pure ⟨rfl, h₃⟩
    | true =>
      simp only [if_true] at h₃ ⊢
      refine wpAny_bind (wpAny_mono h₃ (fun x s₄ h₄ => wpAny_bind (wpAny_standAt (wpAny_bind (wpAny_of_eq (hs x) (wpAny_bind (wpAny_holding (wpAny_mono h₄ (fun it1 s₅ h₅ => ?_) fun _ _ h' => h'))))))) fun _ _ h' => h')
      exact wpAny_bind (wpAny_runOwn (h₅ _ fun s' h' => wpAny_pure ⟨rfl, h'⟩))
end
end Mine
end

section
open PySem PySem.W PyProof.Rows PySem.Calls
set_option Elab.async false
set_option linter.unusedVariables false
set_option maxRecDepth 100000
namespace Mine
theorem ns_some {h : Heap} {a : Addr} {m : Str → Option Value} (H : h.Ns a m) : ∃ o, h.get? a = some o := by
  unfold Heap.Ns at H
  obtain ⟨_, _, _, e, _⟩ := H
  exact ⟨_, e⟩
theorem ns_lt {h : Heap} {a : Addr} {m : Str → Option Value} (H : h.Ns a m) : Nat.lt a h.objs.size := by
  obtain ⟨o, e⟩ := ns_some H
  exact Heap.lt_size e
section
variable {prog : Program} {w : World} {A : Around} {E : Value → Shared → Prop} {s : Shared}
/-- the inner loop of a comprehension of two clauses, over a source; heap and all -/
theorem innerG {elt iter1 : PySem.Expr} {x1 : Str} {px1 : Pos} {ifs1 : List PySem.Expr} {g0 : Comprehension} {scope : Scope} {pos : Pos} {cenv : Env} {D : Addr} {s₅ : Shared} {R : Result → Shared → Prop}
    (hx1 : cenv.kindOf x1 = some .local) (hp : (cenv.scope.kind == .class || (cenv.scope.kind == .module && cenv.locals != cenv.globals)) = false)
    {I1 : Addr} {fp wr : List Addr} {n1 : Nat} {P1 : Nat → Value → Prop} {St : Nat → Heap → Prop} (W : Walks prog w A I1 fp wr n1 P1 St) (Ri : Nat → List Value → Heap → Prop) (stab : ∀ j zs h h', Ri j zs h → Ext (D :: cenv.locals :: wr) h h' → Ri j zs h') {ys : List Value} {m : Str → Option Value}
    (hDC : D ≠ cenv.locals) (hDf : D ∉ fp) (hCf : cenv.locals ∉ fp) (hst : St 0 s₅.heap) (hacc : s₅.heap.PlainList D ys.toArray) (hn : s₅.heap.Ns cenv.locals m) (h0 : Ri 0 ys s₅.heap) (hlen : ∀ j zs h, Ri j zs h → zs.length ≤ sizeLine)
    (turn : ∀ j v1 zs s₆ (m₆ : Str → Option Value) E', j < n1 → P1 j v1 → Ri j zs s₆.heap → Mv s₅ s₆ → Ext (D :: cenv.locals :: wr) s₅.heap s₆.heap → s₆.heap.Ns cenv.locals (fun y => if y = x1 then some v1 else m₆ y) → (∀ y, y ≠ x1 → m₆ y = m y) →
      TurnE prog w A elt ifs1 cenv [] E' Ri j zs s₆)
    (fin : ∀ h' tk m' zs, Ri n1 zs h' → h'.PlainList D zs.toArray → h'.Ns cenv.locals m' → (∀ y, y ≠ x1 → m' y = m y) → Ext (D :: cenv.locals :: wr) s₅.heap h' → R (.ok .next) { s₅ with heap := h', toks := tk }) :
    codeAny (model prog w) A (.compLoop (.ListComp elt [g0, ⟨.Name x1 px1, iter1, ifs1, 0⟩] scope pos) 1 (.ref I1) (.ref D) cenv) R s₅ := by
  have hCw : cenv.locals ∉ wr := fun h => hCf (W.sub _ h)
  have hDw : D ∉ wr := fun h => hDf (W.sub _ h)
  refine inner_loop (fun k s' => ∃ h tk m' zs j, s' = { s₅ with heap := h, toks := tk } ∧ St j h ∧ h.PlainList D (List.toArray zs) ∧ h.Ns cenv.locals m' ∧ (∀ y, y ≠ x1 → m' y = m y) ∧ Ri j zs h ∧ j ≤ n1 ∧ k = n1 + 1 - j ∧ Ext (D :: cenv.locals :: wr) s₅.heap h) ?_ (n1 + 1)
    ⟨s₅.heap, s₅.toks, m, ys, 0, rfl, hst, hacc, hn, fun _ _ => rfl, h0, Nat.zero_le _, rfl, Ext.refl _⟩
  rintro k s' ⟨H, tk, m', zs, j, rfl, hst', hacc', hn', hm', hR, hj, rfl, hx⟩
  by_cases hlt : j < n1
  · refine W.item j _ _ _ hlt hst' fun v h₂ tk₁ hPv hst₂ hk₂ => ?_
    refine wpAny_assign_Name (wpAny_storeName_local (env := cenv) hx1 (hn'.at' fun o e => hk₂ _ o hCw e) (fun h₃ hn₃ hs₃ => ?_) hp)
    have st₃ : St (j + 1) h₃ := W.frame _ _ _ hst₂ fun b hb o e => hs₃.extBut b o (fun h => hCf (h ▸ hb)) e
    have x₃ : Ext (D :: cenv.locals :: wr) H h₃ := ⟨fun b o nb e => by
      simp only [List.mem_cons, not_or] at nb
      exact hs₃.extBut b o nb.2.1 (hk₂ b o nb.2.2 e)⟩
    have acc₃ : h₃.PlainList D (List.toArray zs) := hacc'.at fun o e => hs₃.extBut _ o hDC (hk₂ _ o hDw e)
    refine wpAny_mono (turn j v zs _ m' _ hlt hPv (stab _ _ _ _ hR x₃) ⟨_, _, rfl⟩ (hx.trans x₃) hn₃ hm') (fun ok s₇ h₇ => ?_) fun _ _ e => e
    cases ok with
    | false =>
      simp only [Bool.false_eq_true, if_false] at h₇ ⊢
      obtain ⟨⟨h4, tk4, rfl⟩, x4, i4⟩ := h₇
      exact ⟨n1 + 1 - (j + 1), by omega, h4, tk4, _, zs, j + 1, rfl, W.frame _ _ _ st₃ fun b _ o e => x4.get e, acc₃.at fun o e => x4.get e, hn₃.at' fun o e => x4.get e, fun y hy => by simp [hy, hm' y hy], i4, hlt, rfl, (hx.trans x₃).trans (Sub.ext x4)⟩
    | true =>
      simp only [if_true] at h₇ ⊢
      obtain ⟨⟨h4, tk4, rfl⟩, x4, w4⟩ := h₇
      refine wpAny_mono w4 (fun y s₈ h₈ => ?_) fun _ _ e => e
      obtain ⟨⟨h5, tk5, rfl⟩, x5, i5⟩ := h₈
      have x45 := Ext.trans x4 x5
      have a5 : h5.PlainList D (List.toArray zs) := acc₃.at fun o e => Sub.get x45 e
      refine wpAny_list_append_plain (hsz := by simpa using hlen _ _ _ hR) a5 fun h6 a6 hs6 => ?_
      have i6 := stab _ _ _ h6 i5 ⟨fun b o nb e => hs6.extBut b o (by simp only [List.mem_cons, not_or] at nb; exact nb.1) e⟩
      refine ⟨n1 + 1 - (j + 1), by omega, h6, tk5, _, zs ++ [y], j + 1, rfl, W.frame _ _ _ st₃ fun b hb o e => hs6.extBut b o (fun h => hDf (h ▸ hb)) (Sub.get x45 e), by simpa using a6, (hn₃.at' fun o e => Sub.get x45 e).sameBut hs6 (Ne.symm hDC), fun y hy => by simp [hy, hm' y hy], i6, hlt, rfl, ?_⟩
      refine (hx.trans x₃).trans ((Sub.ext x45).trans ⟨fun b o nb e => hs6.extBut b o (by simp only [List.mem_cons, not_or] at nb; exact nb.1) e⟩)
  · have hin : j = n1 := by omega
    subst hin
    refine W.done _ _ _ hst' fun h₂ tk₁ hk₂ => ?_
    exact fin h₂ tk₁ m' zs (stab _ _ _ _ hR ⟨fun b o nb e => hk₂ b o (by simp only [List.mem_cons, not_or] at nb; exact nb.2.2) e⟩) (hacc'.at fun o e => hk₂ _ o hDw e) (hn'.at' fun o e => hk₂ _ o hCw e) hm' (hx.trans ⟨fun b o nb e => hk₂ b o (by simp only [List.mem_cons, not_or] at nb; exact nb.2.2) e⟩)
section
variable (prog : Program) (w : World) (A : Around) (E : Value → Shared → Prop) (env : Env) (elt iter1 : PySem.Expr) (x0 x1 : Str) (ifs0 ifs1 : List PySem.Expr) (scope : Scope) (cl : List (Str × Addr)) (use : Option (Value → Sem Unit)) (Q : Value → Shared → Prop)
inductive C2J (Rl : Nat → List Value → Heap → Prop) (i : Nat) (ys : List Value) (s₁ s₄ s₅ : Shared) (v : Value) (C D : Addr) (E'' : Value → Shared → Prop) (n1 : Nat) (P1 : Nat → Value → Prop) (I1 : Addr) : Prop
  | mk (Ri : Nat → List Value → Heap → Prop) (stab : ∀ j zs h h', Ri j zs h → Ext [D, C, I1] h h' → Ri j zs h') (r0 : Ri 0 ys s₅.heap) (hlen : ∀ j zs h, Ri j zs h → zs.length ≤ sizeLine)
    (turn : ∀ j v1 zs s₆ m₆ E'', j < n1 → P1 j v1 → Ri j zs s₆.heap → Mv s₅ s₆ → Sub s₁.heap s₆.heap → (∀ b o, s₄.heap.get? b = none → s₅.heap.get? b = some o → s₆.heap.get? b = some o) → s₆.heap.Ns C m₆ → m₆ x1 = some v1 → m₆ x0 = some v → TurnE prog w A elt ifs1 (compEnvC scope cl C env) [] E'' Ri j zs s₆)
    (fin : ∀ zs h, Ri n1 zs h → Rl (i + 1) zs h)
inductive C2I1 (Rl : Nat → List Value → Heap → Prop) (i : Nat) (ys : List Value) (s₁ s₄ : Shared) (v : Value) (C D : Addr) (xv1 : Value) (s₅ : Shared) : Prop
  | mk (hm : Mv s₄ s₅) (hs : Sub s₄.heap s₅.heap) (n1 : Nat) (P1 : Nat → Value → Prop) (fp1 : List Addr) (src : Src prog w s₅ xv1 n1 P1 fp1) (hfp : ∀ b ∈ fp1, s₄.heap.get? b = none ∧ b < s₅.heap.objs.size)
    (hall : ∀ I1, s₅.heap.get? I1 = none → C2J prog w A env elt x0 x1 ifs1 scope cl Rl i ys s₁ s₄ s₅ v C D E n1 P1 I1)
abbrev Turn2 (Rl : Nat → List Value → Heap → Prop) (i : Nat) (ys : List Value) (s₁ : Shared) (v : Value) (C D : Addr) (E' : Value → Shared → Prop) (s₃ : Shared) : Prop :=
  wpAny (model prog w) A (testsOf ifs0 (compEnvC scope cl C env)) (fun ok s₄ =>
    if ok = true then Mv s₃ s₄ ∧ Sub s₃.heap s₄.heap ∧ wpAny (model prog w) A (eval iter1 (compEnvC scope cl C env)) (fun xv1 s₅ => Halt (C2I1 prog w A E' env elt x0 x1 ifs1 scope cl Rl i ys s₁ s₄ v C D xv1 s₅)) E' s₄
    else Mv s₃ s₄ ∧ Sub s₃.heap s₄.heap ∧ Rl (i + 1) ys s₄.heap) E' s₃
inductive C2I (n : Nat) (P : Nat → Value → Prop) (s₁ : Shared) (I C D : Addr) : Prop
  | mk (Rl : Nat → List Value → Heap → Prop) (stab : ∀ i ys h h', Rl i ys h → Ext [C, D, I] h h' → Rl i ys h') (i0 : Rl 0 [] s₁.heap)
    (turn : ∀ i v ys s₃ m₃ E', i < n → P i v → Rl i ys s₃.heap → Mv s₁ s₃ → Sub s₁.heap s₃.heap → s₃.heap.Ns C m₃ → m₃ x0 = some v → (s₃.heap.get? I).isSome = true → (s₃.heap.get? D).isSome = true → Turn2 prog w A env elt iter1 x0 x1 ifs0 ifs1 scope cl Rl i ys s₁ v C D E' s₃)
    (fin : ∀ h' tk ys m', Rl n ys h' → h'.PlainList D ys.toArray → h'.Ns C m' → Sub s₁.heap h' → compPost (model prog w) A E use Q (.ref D) C (.ok .next) { s₁ with heap := h', toks := tk })
/-- what a comprehension of two clauses must bear -/
inductive C2 (xv : Value) (s₁ : Shared) : Prop
  | mk (n : Nat) (P : Nat → Value → Prop) (fp : List Addr) (src : Src prog w s₁ xv n P fp) (hfp : ∀ b ∈ fp, b < s₁.heap.objs.size)
    (hall : ∀ I C D, s₁.heap.get? I = none → s₁.heap.get? C = none → s₁.heap.get? D = none → C ≠ D → I ≠ D → I ≠ C → s₁.heap.objs.size ≤ C → C2I prog w A E env elt iter1 x0 x1 ifs0 ifs1 scope cl use Q n P s₁ I C D)
end
/-- a comprehension of two clauses used or not, by an invariant over the heap -/
theorem comp2U {env : Env} {elt iter0 iter1 : PySem.Expr} {x0 x1 : Str} {px0 px1 : Pos} {ifs0 ifs1 : List PySem.Expr} {scope : Scope} {cl : List (Str × Addr)} {pos : Pos} {Q : Value → Shared → Prop} {use : Option (Value → Sem Unit)} {cpos : Pos}
    (hA : A.handled = none) (hclos : closureFor scope env = pure cl) (hcell : ∀ y ∈ scope.names, y.2 ≠ .cell) (hkind : scope.kind = .function)
    (hnames : ∀ y ∈ scope.names, y.2 = .local → scope.names.lookup y.1 = some .local) (hx0 : scope.names.lookup x0 = some .local) (hx1 : scope.names.lookup x1 = some .local) (hxx : x0 ≠ x1)
    (h : wpAny (model prog w) A (eval iter0 env) (fun xv s₁ => Halt (C2 prog w A E env elt iter1 x0 x1 ifs0 ifs1 scope cl use Q xv s₁)) E s)
    (hs0 : ∀ x, foldedSetIterable iter0 env x = pure x := by intro _; rfl) (hs1 : ∀ C x, foldedSetIterable iter1 (compEnvC scope cl C env) x = pure x := by intro _ _; rfl) :
    wpAny (model prog w) A (comprehension (.ListComp elt [⟨.Name x0 px0, iter0, ifs0, 0⟩, ⟨.Name x1 px1, iter1, ifs1, 0⟩] scope pos) scope env cpos (newList []) false (eval iter0 env) use) Q E s := by
  refine wpAny_comprehension_free (use := use) rfl hs0 hclos hkind hnames (wpAny_mono h (fun xv s₁ h₁ => ?_) fun _ _ e => e)
  obtain ⟨n, P, fp, src, hfp, hall⟩ := h₁
  refine src A E _ hA fun o St W hal hst => ?_
  refine wpAny_newObj_type (wpAny_newFunctionEnv hcell (by intro y hy; simp at hy) (fun h₁ hns₁ hsb₁ => ?_) hkind)
  dsimp only at hns₁ hsb₁ ⊢
  generalize hH1 : s₁.heap.push o = H1 at hst hns₁ hsb₁ ⊢
  generalize hH2 : H1.push { cls := .type "list", dict := none, data := .seq ([] : List Value).toArray } = H2 at hns₁ hsb₁ ⊢
  generalize hI : s₁.heap.objs.size = I at W hal ⊢
  have hD : H1.objs.size = I + 1 := by rw [← hH1, Heap.size_push, hI]
  have hC : H2.objs.size = I + 1 + 1 := by rw [← hH2, Heap.size_push, hD]
  generalize hDe : H1.objs.size = D at hD ⊢
  generalize hCe : H2.objs.size = C at hC hns₁ hsb₁ ⊢
  have hDC : D ≠ C := by omega
  have nfp : ∀ b ∈ I :: fp, b ≤ I := by
    intro b hb
    rcases List.mem_cons.mp hb with rfl | hb
    · exact Nat.le_refl _
    · exact Nat.le_of_lt (hI ▸ hfp b hb)
  have hDf : D ∉ I :: fp := fun hm => by have := nfp _ hm; omega
  have hCf : C ∉ I :: fp := fun hm => by have := nfp _ hm; omega
  have hCw : C ∉ [I] := fun h => hCf (W.sub _ h)
  have hDw : D ∉ [I] := fun h => hDf (W.sub _ h)
  have lt1 : ∀ b o, s₁.heap.get? b = some o → Nat.lt b I := fun b o e => hI ▸ Heap.lt_size e
  have neC : ∀ b o, s₁.heap.get? b = some o → b ≠ C := fun b o e => Nat.ne_of_lt (Nat.lt_trans (lt1 b o e) (by show I < C; omega))
  have neD : ∀ b o, s₁.heap.get? b = some o → b ≠ D := fun b o e => Nat.ne_of_lt (Nat.lt_trans (lt1 b o e) (by show I < D; omega))
  have neI : ∀ b o, s₁.heap.get? b = some o → b ∉ [I] := fun b o e q => Nat.ne_of_lt (lt1 b o e) (List.mem_singleton.mp q)
  have gI : s₁.heap.get? I = none := get_ge (by omega)
  have gD : s₁.heap.get? D = none := get_ge (by omega)
  have gC : s₁.heap.get? C = none := get_ge (by omega)
  have s1H1 : Sub s₁.heap H1 := hH1 ▸ sub_push _ _
  have hH1h : Sub H1 h₁ := ⟨fun b o _ e => hsb₁.extBut b o (Nat.ne_of_lt (Nat.lt_trans (Heap.lt_size e) (by show H1.objs.size < C; omega))) (Heap.get?_push_of_some _ (hH2 ▸ Heap.get?_push_of_some _ e))⟩
  have hacc : h₁.PlainList D #[] := ⟨_, hsb₁.extBut _ _ hDC (Heap.get?_push_of_some _ (by rw [← hDe, ← hH2]; exact Heap.get?_push_size _ rfl))⟩
  have hst₁ : St 0 h₁ := W.frame _ _ _ hst fun b _ o e => hH1h.get e
  obtain ⟨Rl, stab, h0, turn, fin⟩ := hall I C D gI gC gD (Ne.symm hDC) (Nat.ne_of_lt (by omega)) (Nat.ne_of_lt (by omega)) (by omega)
  have fresh : ∀ {h' : Heap} {l : List Addr}, Ext l s₁.heap h' → (∀ b ∈ l, s₁.heap.get? b = none) → Sub s₁.heap h' := fun {h' l} e q => e.sub_fresh q
  have loop : ∀ s₃ : Shared, s₃ = { s₁ with heap := h₁, toks := s₁.toks + ([] : List (Str × Value)).length } →
      codeAny (model prog w) A (.compLoop (.ListComp elt [⟨.Name x0 px0, iter0, ifs0, 0⟩, ⟨.Name x1 px1, iter1, ifs1, 0⟩] scope pos) 0 (.ref I) (.ref D) (compEnvC scope cl C env))
        (compPost (model prog w) A E use Q (.ref D) C) s₃ := by
    rintro s₃ rfl
    refine outer_loop rfl (hs1 C)
      (fun k s' => ∃ h' tk m' ys i, s' = { s₁ with heap := h', toks := tk } ∧ St i h' ∧ h'.PlainList D (List.toArray ys) ∧ h'.Ns C m' ∧ Rl i ys h' ∧ i ≤ n ∧ k = n + 1 - i ∧ Sub s₁.heap h') ?_ (n + 1)
      ⟨_, _, _, [], 0, rfl, hst₁, hacc, hns₁, stab _ _ _ _ h0 (Sub.ext (Sub.trans' s1H1 hH1h)), Nat.zero_le _, rfl, Sub.trans' s1H1 hH1h⟩
    rintro k s' ⟨H, tk, m', ys, i, rfl, hst', hacc', hn', hR, hi, rfl, hsub⟩ N
    by_cases hlt : i < n
    · refine W.item i _ _ _ hlt hst' fun v h₂ tk₁ hPv hst₂ hk₂ => ?_
      refine wpAny_assign_Name (wpAny_storeName_local (env := compEnvC scope cl C env) (lookup_relabel_local hx0) (hn'.at' fun o e => hk₂ _ o hCw e) (fun h₃ hn₃ hs₃ => ?_) (by simp [compEnvC, relabel, hkind]))
      have hst₃ : St (i + 1) h₃ := W.frame _ _ _ hst₂ fun b hb o e => hs₃.extBut b o (fun h => hCf (by have h' : b = C := h; rw [← h']; exact hb)) e
      have hsub₃ : Sub s₁.heap h₃ := ⟨fun b o _ e => by
        have : b < I := lt1 _ _ e
        exact hs₃.extBut b o (neC _ _ e) (hk₂ b o (neI _ _ e) (hsub.get e))⟩
      have hacc₃ : h₃.PlainList D (List.toArray ys) := hacc'.at fun o e => hs₃.extBut _ o hDC (hk₂ _ o hDw e)
      have hR₃ := stab _ _ _ h₃ hR ⟨fun b o nb e => by
        simp only [List.mem_cons, List.not_mem_nil, or_false, not_or] at nb
        exact hs₃.extBut b o nb.1 (hk₂ b o (by simpa using nb.2.2) e)⟩
      refine wpAny_mono (turn i v ys _ _ _ hlt hPv hR₃ ⟨_, _, rfl⟩ hsub₃ hn₃ (by simp) (hal _ _ hst₃) (by obtain ⟨e, he⟩ := id hacc₃; show (h₃.get? D).isSome = true; rw [he]; rfl)) (fun ok s₄ h₄ => ?_) fun _ _ e => e
      cases ok with
      | false =>
        simp only [Bool.false_eq_true, if_false] at h₄ ⊢
        obtain ⟨⟨h4, tk4, rfl⟩, x4, i4⟩ := h₄
        exact ⟨n + 1 - (i + 1), by omega, h4, tk4, _, ys, i + 1, rfl, W.frame _ _ _ hst₃ fun b _ o e => x4.get e, hacc₃.at fun o e => x4.get e, hn₃.at' fun o e => x4.get e, i4, hlt, rfl, Sub.trans' hsub₃ x4⟩
      | true =>
        simp only [if_true] at h₄ ⊢
        obtain ⟨⟨h4, tk4, rfl⟩, x4, w4⟩ := h₄
        refine wpAny_mono w4 (fun xv1 s₅ h₅ => ?_) fun _ _ e => e
        obtain ⟨⟨h5, tk5, rfl⟩, x5, n1, P1, fp1, src1, hfp1, hall1⟩ := h₅
        dsimp only at x4 x5 src1 hfp1 hall1 hsub₃ hn₃
        have x45 : Sub h₃ h5 := Sub.trans' x4 x5
        have acc5 : h5.PlainList D (List.toArray ys) := hacc₃.at fun o e => x45.get e
        have ns5 := hn₃.at' (h' := h5) fun o e => x45.get e
        have Dlt : D < h5.objs.size := by obtain ⟨e, he⟩ := id acc5; exact Heap.lt_size he
        have Clt : C < h5.objs.size := by
          rcases Nat.lt_or_ge C h5.objs.size with q | q
          · exact q
          · exact absurd q (Nat.not_le.mpr (ns_lt ns5))
        refine src1 A N _ hA fun o1 St1 W1 hal1 hst1 => ?_
        intro R1 hR1
        dsimp only at W1 hal1 hst1
        have sp : Sub h5 (h5.push o1) := sub_push _ _
        obtain ⟨Ri, stab1, r0, hlen, turn1, fin1⟩ := hall1 h5.objs.size (get_ge (Nat.le_refl _))
        have go : codeAny (model prog w) A (.compLoop (.ListComp elt [⟨.Name x0 px0, iter0, ifs0, 0⟩, ⟨.Name x1 px1, iter1, ifs1, 0⟩] scope pos) 1 (.ref h5.objs.size) (.ref D) (compEnvC scope cl C env)) R1 { s₁ with heap := h5.push o1, toks := tk5 } := by
          refine innerG (cenv := compEnvC scope cl C env) (lookup_relabel_local hx1) (by simp [compEnvC, relabel, hkind]) W1 Ri (fun j zs h h' a b => stab1 j zs h h' a b) (ys := ys) hDC ?_ ?_ hst1 (acc5.at fun o e => sp.get e) (ns5.at' fun o e => sp.get e) (stab1 _ _ _ _ r0 (Sub.ext sp)) hlen ?_ ?_
          · intro hm
            rcases List.mem_cons.mp hm with q | q
            · exact absurd q (Nat.ne_of_lt Dlt)
            · obtain ⟨e, he⟩ := id hacc₃
              have := (hfp1 _ q).1
              rw [x4.get he] at this; cases this
          · intro hm
            rcases List.mem_cons.mp hm with q | q
            · exact absurd q (Nat.ne_of_lt Clt)
            · obtain ⟨o, ho⟩ := ns_some hn₃
              cases (x4.get ho).symm.trans (hfp1 _ q).1
          · intro j v1 zs s₆ m₆ E' hj hP1 hRi hmv hext hn6 hm6
            have old : ∀ b o, b ≠ D → b ≠ C → h5.get? b = some o → s₆.heap.get? b = some o := fun b o nD nC e => hext.keep b o (by
              have := Heap.lt_size e
              simp only [List.mem_cons, List.not_mem_nil, or_false, not_or]
              exact ⟨nD, nC, Nat.ne_of_lt this⟩) (sp.get e)
            refine turn1 j v1 zs s₆ _ E' hj hP1 hRi (Mv.trans ⟨_, _, rfl⟩ hmv) ?_ ?_ hn6 (by simp) ?_
            · exact ⟨fun b o _ e => by
                have : b < I := lt1 _ _ e
                exact old b o (neD _ _ e) (neC _ _ e) (x45.get (hsub₃.get e))⟩
            · intro b o hb e
              refine old b o ?_ ?_ e
              · rintro rfl
                obtain ⟨e', he⟩ := id hacc₃
                rw [x4.get he] at hb; cases hb
              · rintro rfl
                obtain ⟨o', ho⟩ := ns_some hn₃
                cases (x4.get ho).symm.trans hb
            · simp only [if_neg hxx, hm6 x0 hxx, if_true]
          · intro h' tk' m'' zs hRi hpl hns hm hext
            have old : ∀ b o, b ≠ D → b ≠ C → h5.get? b = some o → h'.get? b = some o := fun b o nD nC e => hext.keep b o (by
              have := Heap.lt_size e
              simp only [List.mem_cons, List.not_mem_nil, or_false, not_or]
              exact ⟨nD, nC, Nat.ne_of_lt this⟩) (sp.get e)
            refine hR1 _ ⟨n + 1 - (i + 1), by omega, h', tk', _, zs, i + 1, rfl, W.frame _ _ _ hst₃ fun b hb o e => ?_, hpl, hns, fin1 zs _ hRi, hlt, rfl, ⟨fun b o _ e => ?_⟩⟩
            · exact old b o (fun q => hDf (q ▸ hb)) (fun q => hCf (q ▸ hb)) (x45.get e)
            · have : b < I := lt1 _ _ e
              exact old b o (neD _ _ e) (neC _ _ e) (x45.get (hsub₃.get e))
        exact inner_start go (W1.self 0 _ _ _ hst1 go)
    · have hin : i = n := by omega
      subst hin
      refine W.done _ _ _ hst' fun h₂ tk₁ hk₂ => ?_
      refine fin _ _ ys m' (stab _ _ _ _ hR ⟨fun b o nb e => hk₂ b o (by simp only [List.mem_cons, List.not_mem_nil, or_false, not_or] at nb; simpa using nb.2.2) e⟩) (hacc'.at fun o e => hk₂ _ o hDw e) (hn'.at' fun o e => hk₂ _ o hCw e) ⟨fun b o _ e => ?_⟩
      exact hk₂ b o (neI _ _ e) (hsub.get e)
  exact codeAny_compStart_list (loop _ rfl) (W.self 0 _ _ _ hst₁ (loop _ rfl))
section
variable (prog : Program) (w : World) (A : Around) (env : Env) (elt iter1 : PySem.Expr) (x0 x1 : Str) (ifs0 ifs1 : List PySem.Expr) (scope : Scope) (cl : List (Str × Addr)) (Q : Value → Shared → Prop) (Rl : Nat → List Value → Prop)
inductive C2SJ (i : Nat) (ys : List Value) (s₁ s₄ : Shared) (v : Value) (C : Addr) (xv1 : Value) (s₅ : Shared) : Prop
  | mk (hm : Mv s₄ s₅) (hs : Sub s₄.heap s₅.heap) (n1 : Nat) (P1 : Nat → Value → Prop) (fp1 : List Addr) (Ri : Nat → List Value → Prop) (src : Src prog w s₅ xv1 n1 P1 fp1) (hfp : ∀ b ∈ fp1, s₄.heap.get? b = none ∧ b < s₅.heap.objs.size) (r0 : Ri 0 ys) (hlen : ∀ j zs, Ri j zs → zs.length ≤ sizeLine)
    (turn : ∀ j v1 zs s₆ m₆ E'', j < n1 → P1 j v1 → Ri j zs → Mv s₅ s₆ → Sub s₁.heap s₆.heap → (∀ b o, s₄.heap.get? b = none → s₅.heap.get? b = some o → s₆.heap.get? b = some o) → s₆.heap.Ns C m₆ → m₆ x1 = some v1 → m₆ x0 = some v → TurnE prog w A elt ifs1 (compEnvC scope cl C env) [] E'' (fun j zs _ => Ri j zs) j zs s₆)
    (fin : ∀ zs, Ri n1 zs → Rl (i + 1) zs)
inductive C2S (xv : Value) (s₁ : Shared) : Prop
  | mk (n : Nat) (P : Nat → Value → Prop) (fp : List Addr) (src : Src prog w s₁ xv n P fp) (hfp : ∀ b ∈ fp, b < s₁.heap.objs.size)
    (turn : ∀ i v ys s₃ C m₃ E', i < n → P i v → Rl i ys → Mv s₁ s₃ → Sub s₁.heap s₃.heap → s₃.heap.Ns C m₃ → m₃ x0 = some v → s₁.heap.objs.size ≤ C →
      wpAny (model prog w) A (testsOf ifs0 (compEnvC scope cl C env)) (fun ok s₄ =>
        if ok = true then Mv s₃ s₄ ∧ Sub s₃.heap s₄.heap ∧ wpAny (model prog w) A (eval iter1 (compEnvC scope cl C env)) (fun xv1 s₅ => Halt (C2SJ prog w A env elt x0 x1 ifs1 scope cl Rl i ys s₁ s₄ v C xv1 s₅)) E' s₄
        else Mv s₃ s₄ ∧ Sub s₃.heap s₄.heap ∧ Rl (i + 1) ys) E' s₃)
    (fin : ∀ D h' tk ys e, Rl n ys → s₁.heap.get? D = none → h'.get? D = some { cls := .type "list", data := .seq ys.toArray e } → Sub s₁.heap h' → Q (.ref D) { s₁ with heap := h', toks := tk })
end
theorem comp2S {env : Env} {elt iter0 iter1 : PySem.Expr} {x0 x1 : Str} {px0 px1 : Pos} {ifs0 ifs1 : List PySem.Expr} {scope : Scope} {cl : List (Str × Addr)} {pos : Pos} {Q : Value → Shared → Prop} (Rl : Nat → List Value → Prop)
    (hA : A.handled = none) (hclos : closureFor scope env = pure cl) (hcell : ∀ y ∈ scope.names, y.2 ≠ .cell) (hkind : scope.kind = .function)
    (hnames : ∀ y ∈ scope.names, y.2 = .local → scope.names.lookup y.1 = some .local) (hx0 : scope.names.lookup x0 = some .local) (hx1 : scope.names.lookup x1 = some .local) (hxx : x0 ≠ x1) (h0 : Rl 0 [])
    (h : wpAny (model prog w) A (eval iter0 env) (fun xv s₁ => Halt (C2S prog w A env elt iter1 x0 x1 ifs0 ifs1 scope cl Q Rl xv s₁)) E s)
    (hs0 : ∀ x, foldedSetIterable iter0 env x = pure x := by intro _; rfl) (hs1 : ∀ C x, foldedSetIterable iter1 (compEnvC scope cl C env) x = pure x := by intro _ _; rfl) :
    wpAny (model prog w) A (eval (.ListComp elt [⟨.Name x0 px0, iter0, ifs0, 0⟩, ⟨.Name x1 px1, iter1, ifs1, 0⟩] scope pos) env) Q E s := by
  rw [eval_ListComp]
  refine comp2U (use := none) hA hclos hcell hkind hnames hx0 hx1 hxx (wpAny_mono h (fun xv s₁ h₁ => ?_) fun _ _ e => e) hs0 hs1
  obtain ⟨n, P, fp, src, hfp, turn, fin⟩ := h₁
  refine ⟨n, P, fp, src, hfp, fun I C D gI gC gD hCD hID hIC hC => ⟨fun i ys _ => Rl i ys, fun _ _ _ _ a _ => a, h0, ?_, ?_⟩⟩
  · intro i v ys s₃ m₃ E' hi hP hR hmv hx3 hn hm _ _
    refine wpAny_mono (turn i v ys s₃ C m₃ E' hi hP hR hmv hx3 hn hm hC) (fun ok s₄ h₄ => ?_) fun _ _ e => e
    cases ok with
    | false =>
      simp only [Bool.false_eq_true, if_false] at h₄ ⊢
      exact h₄
    | true =>
      simp only [if_true] at h₄ ⊢
      refine ⟨h₄.1, h₄.2.1, wpAny_mono h₄.2.2 (fun xv1 s₅ h₅ => ?_) fun _ _ e => e⟩
      obtain ⟨hm5, hs5, n1, P1, fp1, Ri, src1, hfp1, r0, hlen, turn1, fin1⟩ := h₅
      exact ⟨hm5, hs5, n1, P1, fp1, src1, hfp1, fun I1 _ => ⟨fun j zs _ => Ri j zs, fun _ _ _ _ a _ => a, r0, fun j zs _ => hlen j zs, fun j v1 zs s₆ m₆ E'' a b c d e f g h k => turn1 j v1 zs s₆ m₆ E'' a b c d e f g h k, fun zs _ => fin1 zs⟩⟩
  · intro h' tk ys m' hR hpl hnC hsub
    obtain ⟨e, he⟩ := id hpl
    exact ⟨m', hnC, fun h'' hs'' => fin D h'' tk ys e hR gD (hs''.extBut _ _ (Ne.symm hCD) he) ⟨fun b o _ e => hs''.extBut b o (ne_of_get e gC) (hsub.get e)⟩⟩
end
end Mine
end

section
open PySem PySem.W PyProof.Rows PySem.Calls PyProof.V PySem.Spec
set_option Elab.async false
set_option linter.unusedVariables false
set_option maxRecDepth 100000
namespace Mine
open Builtin
theorem slot_bytes_join : Slot "bytes" "join" "bytes.join" :=
  .of (owner := "bytes") (n := "join") (by rw [typeLookup_type, builtinLookup_eq_fast]; kernel_rfl) (by decide +kernel) (by decide +kernel) (by decide +kernel)
    (by first | exact .inl (by decide +kernel) | exact .inr (by decide +kernel)) (by rw [isSubtype_type]; kernel_rfl)
theorem type_bytes_join : typeOf (.builtin "bytes.join") = pure (.type "method_descriptor") := by show builtinType _ = _; rw [builtinType_eq_fast]; kernel_rfl
theorem entry_bytes_join : entryFor table "bytes.join" = some Builtin.«bytes.join» := entryFor_of_tree (by kernel_rfl)
theorem args_bytes_join (a b : Value) : argsOk "bytes.join" ⟨[a, b], []⟩ := by unfold argsOk; kernel_rfl
theorem take_quiet (b : Array UInt8) (t : Tok) : Bytes.takeBufferQuiet? "bytes.join" (.bytes b t) 0 = pure (some (b, none)) := by
  unfold Bytes.takeBufferQuiet?
  kernel_rfl
theorem type_b (b : Array UInt8) (t : Tok) : typeOf (.bytes b t) = pure (.type "bytes") := by kernel_rfl

section
variable {M : Model} {A : Around} {E : Value → Shared → Prop} {s : Shared}
theorem forIn_any {α β : Type} (f : α → β → Sem (ForInStep β)) (I : List α → β → Shared → Prop) (Q : β → Shared → Prop)
    (hstep : ∀ x rest b s, I (x :: rest) b s → wpAny M A (f x b) (fun r s' => match r with | .done b' => Q b' s' | .yield b' => I rest b' s') E s)
    (hend : ∀ b s, I [] b s → Q b s) : ∀ (l : List α) (b : β) (s : Shared), I l b s → wpAny M A (forIn l b f) Q E s
  | [], b, s, h => by rw [List.forIn_nil]; exact wpAny_pure (hend _ _ h)
  | x :: rest, b, s, h => by
    rw [List.forIn_cons]
    refine wpAny_bind (wpAny_mono (hstep x rest b s h) (fun r s' h' => ?_) fun _ _ e => e)
    cases r with
    | done b' => exact wpAny_pure h'
    | yield b' => exact forIn_any f I Q hstep hend rest b' s' h'
end
theorem join_letGo {M : Model} {A : Around} {E : Value → Shared → Prop} {s : Shared} {Q : Unit → Shared → Prop} (h : Q () s) : ∀ (taken : List (Value × Option Value)) (keep : List Value), (∀ p ∈ taken, p.2 = none) → wpAny M A (Bytes.joinLetGo taken keep) Q E s
  | [], keep, _ => wpAny_pure h
  | (x, w) :: rest, keep, hn => by
    have : w = none := hn _ (.head _)
    subst this
    unfold Bytes.joinLetGo
    refine wpAny_bind (wpAny_letGo (join_letGo h rest keep fun p hp => hn p (.tail _ hp)))
def BytesAre (vs : List Value) (bs : List (List UInt8)) : Prop := Paired (fun v b => ∃ t, v = Value.bytes (List.toArray b) t) vs bs
theorem paired_at2 {α β : Type} {F : α → β → Prop} {l₁ : List α} {l₂ : List β} (h : Paired F l₁ l₂) : ∀ (i : Nat) {v : α}, l₁[i]? = some v → ∃ b, l₂[i]? = some b ∧ F v b := by
  induction h with
  | nil => intro i v e; simp at e
  | cons h1 _ ih =>
    intro i v e
    cases i with
    | zero => simp at e; subst e; exact ⟨_, rfl, h1⟩
    | succ i => simpa using ih i (by simpa using e)
theorem joined_from (l : List (List UInt8)) : ∀ (k : Nat) (acc : Array UInt8), ((l.map List.toArray).zipIdx k).foldl (fun out (x : Array UInt8 × Nat) => (if x.2 > 0 then out ++ #[] else out) ++ x.1) acc = acc ++ l.flatten.toArray := by
  induction l with
  | nil => intro k acc; simp
  | cons b r ih =>
    intro k acc
    simp only [List.map_cons, List.zipIdx_cons, List.foldl_cons, ih, List.flatten_cons]
    split <;> simp
theorem joined_nil (l : List (List UInt8)) : Bytes.joined #[] (l.map List.toArray) = l.flatten.toArray := by
  have := joined_from l 0 #[]
  simpa [Bytes.joined] using this
theorem fold_sizes (l : List (List UInt8)) : ∀ n : Nat, (l.map List.toArray).foldl (fun (x1 : Nat) (x2 : Array UInt8) => x1 + x2.size) n = n + l.flatten.length := by
  induction l with
  | nil => intro n; simp
  | cons b r ih => intro n; simp only [List.map_cons, List.foldl_cons, ih, List.flatten_cons, List.length_append, List.size_toArray]; omega
theorem join_fits (l : List (List UInt8)) (hsz : l.flatten.length ≤ 10000) : ¬ Bytes.tooLong ((l.map List.toArray).toArray.foldl (fun (x1 : Nat) (x2 : Array UInt8) => x1 + x2.size) ((#[] : Array UInt8).size * ((l.map List.toArray).toArray.size - 1))) = true := by
  rw [List.foldl_toArray, fold_sizes]
  simp only [Bytes.tooLong, decide_eq_true_eq, Nat.not_lt, Array.size_empty, Nat.zero_mul, Nat.zero_add, gt_iff_lt]
  exact Nat.le_trans hsz (by decide)
theorem join_meets {D : Addr} {bs : List (List UInt8)} {vs : List Value} {t : Tok} {e : Nat} (hv : BytesAre vs bs) (hsz : bs.flatten.length ≤ 10000) :
    Meets («bytes.join» ⟨[.bytes (List.toArray []) t, .ref D], []⟩) (fun _ R s => s.heap.get? D = some { cls := .type "list", data := .seq (List.toArray vs) e } ∧ ∀ t' k, R (.ok (.ret (.bytes bs.flatten.toArray t'))) { s with toks := k }) := by
  refine .of_wp fun prog w A R s hS => ?_
  obtain ⟨hl, h⟩ := hS
  show wpAny _ _ (Bytes.joinM .bytes ⟨[.bytes (List.toArray []) t, .ref D], []⟩) _ _ s
  unfold Bytes.joinM
  refine wpAny_bind (wpAny_of_eq (a := (.bytes (List.toArray []) t, .ref D)) (by kernel_rfl) ?_)
  dsimp only
  unfold Bytes.joinItems
  refine wpAny_bind (wpAny_bind (wpAny_typeOf_ref hl ?_))
  refine wpAny_ite ?_
  rw [if_pos (show (Value.type "list" == Value.type "list" || Value.type "list" == Value.type "tuple") = true by decide)]
  refine wpAny_pure ?_
  refine wpAny_bind (wpAny_seqItems hl rfl ?_)
  dsimp only
  refine wpAny_ite ?_
  rw [if_pos (by decide)]
  rcases vs with _ | ⟨v0, _ | ⟨v1, vr⟩⟩
  · with_unfolding_all change wpAny _ _ (forIn _ _ _ >>= _) _ _ _
    cases hv
    rw [Std.Legacy.Range.forIn_eq_forIn_range']
    refine wpAny_bind ?_
    rw [show List.range' ([:(List.toArray ([] : List Value)).size] : Std.Legacy.Range).start ([:(List.toArray ([] : List Value)).size] : Std.Legacy.Range).size ([:(List.toArray ([] : List Value)).size] : Std.Legacy.Range).step = [] by simp [Std.Legacy.Range.size], List.forIn_nil]
    refine wpAny_pure ?_
    refine wpAny_bind (wpAny_of_eq (a := #[]) rfl ?_)
    refine wpAny_ite ?_
    rw [if_neg (by decide)]
    refine wpAny_bind (wpAny_mkBytes ?_ (by decide))
    refine wpAny_bind (wpAny_holding (wpAny_point ?_))
    refine wpAny_bind (join_letGo ?_ _ _ (by simp))
    exact wpAny_pure ⟨_, rfl, h _ _⟩
  · with_unfolding_all change wpAny _ _ (typeOf _ >>= _) _ _ _
    cases hv with
    | cons h1 h2 =>
      cases h2
      obtain ⟨t1, rfl⟩ := h1
      refine wpAny_bind (wpAny_of_eq (type_b _ _) ?_)
      refine wpAny_ite ?_
      rw [if_pos (by decide)]
      refine wpAny_bind (wpAny_rule ?_)
      simp only [List.flatten_cons, List.flatten_nil, List.append_nil] at h
      exact wpAny_pure ⟨_, rfl, h _ _⟩
  · with_unfolding_all change wpAny _ _ (forIn _ _ _ >>= _) _ _ _
    generalize v0 :: v1 :: vr = vs at *
    rw [Std.Legacy.Range.forIn_eq_forIn_range']
    refine wpAny_bind ?_
    have hlen := Paired.length hv
    have hR : List.range' ([:(List.toArray vs).size] : Std.Legacy.Range).start ([:(List.toArray vs).size] : Std.Legacy.Range).size ([:(List.toArray vs).size] : Std.Legacy.Range).step = List.range' 0 vs.length := by simp [Std.Legacy.Range.size]
    rw [hR]
    refine forIn_any _ (fun l st s' => ∃ i, s' = s ∧ i ≤ vs.length ∧ l = List.range' i (vs.length - i) ∧ st.1 = ((bs.take i).map List.toArray).toArray ∧ (∀ p ∈ st.2, p.2 = none ∧ p.1.onHeap = false)) _ ?_ ?_ _ _ _ ⟨0, rfl, Nat.zero_le _, by simp, by simp, by simp⟩
    · rintro x rest st s' ⟨i, rfl, hi, hl2, hp, ht⟩
      have hlt : i < vs.length := by
        rcases Nat.lt_or_ge i vs.length with h' | h'
        · exact h'
        · rw [show vs.length - i = 0 by omega] at hl2; simp at hl2
      obtain ⟨n, hn⟩ : ∃ n, vs.length - i = n + 1 := ⟨vs.length - i - 1, by omega⟩
      rw [hn, List.range'_succ] at hl2
      obtain ⟨rfl, rfl⟩ := List.cons.inj hl2
      refine wpAny_bind (wpAny_seqItems hl rfl ?_)
      dsimp only
      obtain ⟨v, hv1⟩ : ∃ v, vs[x]? = some v := ⟨vs[x], List.getElem?_eq_getElem hlt⟩
      obtain ⟨b, hb, tb, rfl⟩ := paired_at2 hv x hv1
      have hg : (List.toArray vs).getD x Value.none = .bytes (List.toArray b) tb := by
        simp [Array.getD_eq_getD_getElem?, hv1]
      refine wpAny_ite ?_
      rw [if_neg (by
        simp only [Bool.or_eq_true, not_or]
        refine ⟨by decide, ?_⟩
        rw [Bool.not_eq_true, List.any_eq_false]
        intro p hp'
        rw [(ht p hp').2]; decide)]
      rw [hg]
      refine wpAny_bind (wpAny_holding (wpAny_of_eq (take_quiet _ _) ?_))
      dsimp only
      refine wpAny_bind (wpAny_seqItems hl rfl ?_)
      dsimp only
      refine wpAny_ite ?_
      rw [if_neg (by simp)]
      refine wpAny_pure ?_
      refine ⟨x + 1, rfl, hlt, by congr 1; omega, ?_, ?_⟩
      · rw [hp, List.take_add_one, hb]; simp
      · intro p hp'
        rcases List.mem_append.mp hp' with h' | h'
        · exact ht p h'
        · rw [List.mem_singleton.mp h']; exact ⟨rfl, rfl⟩
    · rintro st s' ⟨i, rfl, hi, hl2, hp, ht⟩
      have hi' : i = vs.length := by
        rcases Nat.lt_or_ge i vs.length with h' | h'
        · obtain ⟨n, hn⟩ : ∃ n, vs.length - i = n + 1 := ⟨vs.length - i - 1, by omega⟩
          rw [hn, List.range'_succ] at hl2; cases hl2
        · omega
      subst hi'
      rw [hlen, List.take_of_length_le (Nat.le_refl _)] at hp
      refine wpAny_bind (wpAny_of_eq (a := #[]) rfl ?_)
      refine wpAny_ite ?_
      rw [if_neg (by rw [hp]; exact join_fits _ hsz)]
      rw [hp, List.toList_toArray, joined_nil]
      refine wpAny_bind (wpAny_mkBytes ?_ (by rw [List.size_toArray]; exact Nat.le_trans hsz (by decide)))
      refine wpAny_bind (wpAny_holding (wpAny_point ?_))
      refine wpAny_bind (join_letGo ?_ _ _ (fun p hq => (ht p hq).1))
      exact wpAny_pure ⟨_, rfl, h _ _⟩
section
variable {prog : Program} {w : World} {A : Around} {E : Value → Shared → Prop} {s : Shared} {Q : Value → Shared → Prop}
theorem join_bytes {D : Addr} {bs : List (List UInt8)} {vs : List Value} {t : Tok} {e : Nat} (hl : s.heap.get? D = some { cls := .type "list", data := .seq (List.toArray vs) e }) (hv : BytesAre vs bs) (hsz : bs.flatten.length ≤ 10000) (h : ∀ t' k, Q (.bytes bs.flatten.toArray t') { s with toks := k }) :
    wpAny (model prog w) A (call (.builtin "bytes.join") [.bytes (List.toArray []) t, .ref D]) Q E s :=
  call_meets slot_bytes_join (typeIs_bytes _ _ _) entry_bytes_join (args_bytes_join _ _) (join_meets hv hsz) ⟨hl, h⟩
end
end Mine
end

section
open PySem PySem.W PyProof.Rows PySem.Calls
set_option Elab.async false
set_option linter.unusedVariables false
set_option maxRecDepth 100000
namespace Mine
section
variable {prog : Program} {w : World} {A : Around} {E : Value → Shared → Prop} {env : Env} {s : Shared}
/-- a name of the frame is set: frame and ledger, a new object added -/
theorem frame_put {g h h' : Heap} {L D : Addr} {m : Str → Option Value} {y : Str} {v : Value} {o : Obj} {news : List (Addr × Obj)} (F : Fr g L h m) (N : News g L h news) (x : Ext [L] h h') (hD : h.get? D = none) (hD' : h'.get? D = some o)
    (hns : h'.Ns L (fun z => if z = y then some v else m z)) : Fr g L h' (fun z => if z = y then some v else m z) ∧ News g L h' ((D, o) :: news) := by
  have gL : g.get? L = none := get_ge F.above
  obtain ⟨oL, _, _, hL, _⟩ := F.ns
  refine ⟨⟨hns, fun b o e => x.keep b o (by
    simp only [List.mem_singleton]; rintro rfl; rw [gL] at e; cases e) (F.keep b o e), F.above⟩, fun p hp => ?_⟩
  rcases List.mem_cons.mp hp with rfl | hp
  · exact ⟨hD', (ne_of_get hL hD).symm, get_none_sub F.keep hD⟩
  · exact ⟨x.keep _ _ (by simpa using (N p hp).2.1) (N p hp).1, (N p hp).2⟩
/-- what lies below C -/
def lowH (h : Heap) (C : Nat) : Heap := { h with objs := h.objs.extract 0 C }
theorem lowH_size (h : Heap) (C : Nat) : (lowH h C).objs.size ≤ C := by simp [lowH]; omega
theorem lowH_get {h : Heap} {C b : Nat} {o : Obj} (e : (lowH h C).get? b = some o) : h.get? b = some o ∧ @LT.lt Nat _ b C := by
  have hb := Heap.lt_size e
  have hb2 := Nat.lt_of_lt_of_le hb (lowH_size h C)
  refine ⟨?_, hb2⟩
  unfold lowH Heap.get? at e
  unfold Heap.get?
  simp only [Array.getElem?_extract] at e
  have hk : b < min C h.objs.size - 0 := by simpa [lowH] using hb
  rw [if_pos hk, Nat.zero_add] at e
  exact e
theorem lowH_keep {h : Heap} {C b : Nat} {o : Obj} (e : h.get? b = some o) (hb : @LT.lt Nat _ b C) : (lowH h C).get? b = some o := by
  have hz := Heap.lt_size e
  unfold lowH Heap.get?
  unfold Heap.get? at e
  simp only [Array.getElem?_extract]
  have hz' : b < h.objs.size := hz
  have hk : b < min C h.objs.size - 0 := by omega
  rw [if_pos hk, Nat.zero_add]
  exact e
theorem low_frame {h : Heap} {C : Nat} {m : Str → Option Value} (hns : h.Ns C m) : Fr (lowH h C) C h m := ⟨hns, fun b o e => (lowH_get e).1, lowH_size h C⟩
theorem low_keep {h h' : Heap} {C : Nat} {m : Str → Option Value} (F : Fr (lowH h C) C h' m) : Low C [] h h' := fun b o hb _ e => F.keep b o (lowH_keep e hb)
theorem low_sub {h₁ h : Heap} {C : Nat} (x : Sub h₁ h) (hC : h₁.objs.size ≤ C) : Sub h₁ (lowH h C) := ⟨fun b o _ e => lowH_keep (x.get e) (Nat.lt_of_lt_of_le (Heap.lt_size e) hC)⟩
/-- what an assigned comprehension must bear: it changes nothing; what is collected are no new objects -/
inductive CSA (prog : Program) (w : World) (A : Around) (env : Env) (elt : PySem.Expr) (x y : Str) (ifs : List PySem.Expr) (scope : Scope) (cl : List (Str × Addr)) (Q : Flow → Shared → Prop) (Rl : Nat → List Value → Prop) (xv : Value) (s₁ : Shared) : Prop
  | mk (n : Nat) (P : Nat → Value → Prop) (fp : List Addr) (m : Str → Option Value) (g : Heap) (news : List (Addr × Obj)) (src : Src prog w s₁ xv n P fp) (hz : n ≤ sizeLine) (hfp : ∀ b ∈ fp, b < s₁.heap.objs.size) (F : Fr g env.locals s₁.heap m) (N : News g env.locals s₁.heap news)
    (turn : ∀ i v ys s₃ C m₃ E', i < n → P i v → Rl i ys → Mv s₁ s₃ → Sub s₁.heap s₃.heap → s₃.heap.Ns C m₃ → m₃ x = some v → ys.length ≤ i → s₁.heap.objs.size ≤ C → TurnC prog w A elt ifs (compEnvC scope cl C env) C [] E' (fun i ys _ => Rl i ys) i ys s₃)
    (fin : ∀ D h' tk ys e, Rl n ys → ys.length ≤ n → s₁.heap.get? D = none → (∀ b o, b ≠ env.locals → s₁.heap.get? b = some o → h'.get? b = some o) → Fr g env.locals h' (fun z => if z = y then some (.ref D) else m z) → News g env.locals h' ((D, { cls := .type "list", data := .seq ys.toArray e }) :: news) → Q .next { s₁ with heap := h', toks := tk })
/-- an assigned comprehension that changes nothing; what is collected are no new objects -/
theorem comp1SA {elt iter : PySem.Expr} {x y : Str} {px py : Pos} {ifs : List PySem.Expr} {scope : Scope} {cl : List (Str × Addr)} {pos spos : Pos} {Q : Flow → Shared → Prop} (Rl : Nat → List Value → Prop)
    (hA : A.handled = none) (hsw : swapsWith (.ListComp elt [⟨.Name x px, iter, ifs, 0⟩] scope pos) (some (.Name y py)) spos.line env = pure true)
    (hclos : closureFor scope env = pure cl) (hcell : ∀ y ∈ scope.names, y.2 ≠ .cell) (hkind : scope.kind = .function)
    (hnames : ∀ y ∈ scope.names, y.2 = .local → scope.names.lookup y.1 = some .local) (hx : scope.names.lookup x = some .local)
    (hy : env.kindOf y = some .local) (hp : (env.scope.kind == .class || (env.scope.kind == .module && env.locals != env.globals)) = false) (h0 : Rl 0 [])
    (h : wpAny (model prog w) A (eval iter env) (fun xv s₁ => Halt (CSA prog w A env elt x y ifs scope cl Q Rl xv s₁)) E s)
    (hs : ∀ x, foldedSetIterable iter env x = pure x := by intro _; rfl) :
    wpAny (model prog w) A (exec (.Assign [.Name y py] (.ListComp elt [⟨.Name x px, iter, ifs, 0⟩] scope pos) spos) env) Q E s := by
  rw [exec_Assign_Name_used _ _ _ _ hsw]
  refine wpAny_bind (wpAny_standAt (wpAny_bind ?_))
  show wpAny _ A (do let _ ← comprehension (.ListComp elt [⟨.Name x px, iter, ifs, 0⟩] scope pos) scope env _ (newList []) false (eval iter env) (some (assign (.Name y py) env))) _ _ s
  refine wpAny_bind (wpAny_mono (comp1N (use := some (assign (.Name y py) env)) (Q := fun _ s' => Q .next s') hA hclos hcell hkind hnames hx (wpAny_mono h (fun xv s₁ h₁ => ?_) fun _ _ e => e) hs) (fun _ s' hq => wpAny_pure (wpAny_pure hq)) fun _ _ e => e)
  obtain ⟨n, P, fp, m, g, news, src, hz, hfp, F, N, turn, fin⟩ := h₁
  refine ⟨n, P, fp, [], src, hz, hfp, fun b hb => absurd hb List.not_mem_nil, fun I C D gI gC gD hCD hID hIC hCge hIlt hDlt => ?_⟩
  refine ⟨fun i ys h => Rl i ys ∧ Sub s₁.heap h, fun i ys h h' hi e => ⟨hi.1, freshSub gI gC gD ((Sub.ext hi.2).trans e)⟩, ⟨h0, Ext.refl _⟩, ?_, ?_⟩
  · intro i v ys s₃ m₃ E' hi hP hI hmv hn hm hlen hIs hpl
    exact (turn i v ys s₃ C m₃ E' hi hP hI.1 hmv hI.2 hn hm hlen hCge).keep hCge hI.2
  · intro h' tk ys m' hI' hlen hpl hnC
    obtain ⟨e, he⟩ := id hpl
    have hsub := hI'.2
    obtain ⟨oL, hoL⟩ := ns_some F.ns
    have hLC : env.locals ≠ C := ne_of_get hoL gC
    have hLD : env.locals ≠ D := ne_of_get hoL gD
    show wpAny _ A (assign (.Name y py) env (.ref D)) _ _ _
    refine wpAny_assign_Name (wpAny_storeName_local hy (F.ns.at' (h' := h') fun o e => hsub.get e) (fun h₂ hn₂ hs₂ => ?_) hp)
    refine ⟨m', hnC.sameBut hs₂ (Ne.symm hLC), fun h₃ hs₃ => ?_⟩
    have hn₃ := hn₂.sameBut hs₃ hLC
    have hx : Ext [env.locals] s₁.heap h₃ := ⟨fun b o nb e => hs₃.extBut b o (ne_of_get e gC) (hs₂.extBut b o (fun q => nb (List.mem_singleton.mpr q)) (hsub.get e))⟩
    obtain ⟨F', N'⟩ := frame_put F N hx gD (hs₃.extBut _ _ (Ne.symm hCD) (hs₂.extBut _ _ (Ne.symm hLD) he)) hn₃
    exact fin D h₃ _ ys e hI'.1 hlen gD (fun b o nb e => hx.keep b o (fun q => nb (List.mem_singleton.mp q)) e) F' N'
theorem slice_full (vs : List Value) {j : Nat} (hj : vs.length ≤ j) : slicePick vs.toArray none (some (j : Int)) none = vs.toArray := by
  have e : sliceBounds none (some (j : Int)) none vs.toArray.size = (((0 : Nat) : Int), ((vs.length : Nat) : Int), 1) := by
    simp only [sliceBounds, Option.getD_none, show (1 : Int) > 0 by decide, if_true, if_neg (show ¬ ((j : Int) < 0) by omega), List.size_toArray]
    congr 1
    congr 1
    omega
  rw [kmk_pick_nat _ e]
  simp
/-- an entry of a dict whose keys are texts, by its key -/
theorem sub_dict {value slice : PySem.Expr} {d : Addr} {o : Obj} {kvs : List (Str × Value)} {x : Str} {t : Tok} {v : Value} {Q : Value → Shared → Prop} (ho : s.heap.get? d = some o) (hd : o.IsDictOf (PySem.strKind prog w) kvs) (hv : valueAt kvs x = some v) (hnr : ∀ a, v ≠ .ref a) (h : Q v { s with toks := s.toks + 1 })
    (hs : subscripted slice false (.ref d) (.str x t) = operate [.ref d, .str x t] (getItem (.ref d) (.str x t)) := by with_unfolding_all rfl) :
    wpAny (model prog w) A (subscriptTail value slice (.ref d) (.str x t)) Q E s :=
  have hD : s.heap.DictOf (PySem.strKind prog w) d kvs := Heap.dictOf_iff.mpr ⟨o, ho, hd⟩
  subscriptTail_builtin_flat hD.typeIs slot_dict_getitem.lookup (wpAny_getItem_of (strKind_is _ _ _ _) hD.mapOf hv ⟨hnr, h⟩) hs
theorem subTail_any {value slice : PySem.Expr} {o i : Value} {hv : List Value} {T id : String} {Q : Value → Shared → Prop} (hT : s.TypeIs o T)
    (hl : typeLookup (.type T) "__getitem__" = pure (some (.builtin id))) (h : wpAny (model prog w) A (getItem o i) Q E s)
    (hs : subscripted slice false o i = operate hv (getItem o i)) :
    wpAny (model prog w) A (subscriptTail value slice o i) Q E s := by
  unfold subscriptTail
  refine wpAny_bind ?_
  rw [getitemInPython_of_ne hT.not_modules]
  refine wpAny_bind (wpAny_specialOf hT hl ?_)
  have fin : wpAny (model prog w) A (subscripted slice false o i) (fun r s₃ => wpAny (model prog w) A (letTemporaryGo value o r >>= fun _ => pure r) Q E s₃) E s := by
    rw [hs]
    exact wpAny_operating (wpAny_mono h (fun r s₃ h₃ => wpAny_bind (wpAny_letTemporaryGo (wpAny_pure h₃))) fun _ _ x => x)
  first
    | exact wpAny_pure (wpAny_bind fin)
    | exact wpAny_bind (wpAny_pure (wpAny_bind fin))
    | exact wpAny_bind fin
theorem slice_any {g : Heap} {L l : Addr} {m : Str → Option Value} {news : List (Addr × Obj)} {value slice : PySem.Expr} {items : Array Value} {vl vu : Value} {lo hi : Option Int} {Q : Value → Shared → Prop}
    (F : Fr g L s.heap m) (N : News g L s.heap news) (hl : s.heap.IsList l items) (pl : IsPart vl lo) (pu : IsPart vu hi)
    (h : ∀ D h', Fr g L h' m → News g L h' ((D, { cls := .type "list", data := .seq (slicePick items lo hi none) 0 }) :: news) → (∀ p ∈ news, p.1 < D) → Q (.ref D) { s with heap := h' })
    (hs : subscripted slice false (.ref l) (.ref s.heap.objs.size) = operate [.ref s.heap.objs.size, .ref l] (getItem (.ref l) (.ref s.heap.objs.size)))
    (hsz : items.size ≤ sizeLine) :
    wpAny (model prog w) A (subscriptTail value slice (.ref l) (.ref s.heap.objs.size)) Q E { s with heap := s.heap.push { cls := .type "slice", data := .fields #[vl, vu, .none] } } := by
  refine subTail_any (Heap.IsList.typeIs (s := { s with heap := s.heap.push { cls := .type "slice", data := .fields #[vl, vu, .none] } }) (hl.push _)) list_getitem_lookup
    (wpAny_getItem_list_slice (hl.push _) (Heap.IsSliceOf.new ..) pl pu .none (by simp) ?_ hsz) hs
  have N1 := News.push (F.push { cls := .type "slice", data := .fields #[vl, vu, .none] }) (N.grown fun _ _ e => Heap.get?_push_of_some _ e) { cls := .type "list", data := .seq (slicePick items lo hi none) }
  rw [Heap.size_push] at N1
  show Q (.ref (s.heap.push _).objs.size) _
  rw [Heap.size_push]
  exact h _ _ ((F.push _).push _) N1 fun p hp => Nat.lt_succ_of_lt (Heap.lt_size (N p hp).1)
theorem lsl_from {value slice : PySem.Expr} {g : Heap} {L l : Addr} {m : Str → Option Value} {news : List (Addr × Obj)} {vs : List Value} {z : Int} {j : Nat} {t : Tok} {Q : Value → Shared → Prop} (F : Fr g L s.heap m) (N : News g L s.heap news) (hl : s.heap.IsList l vs.toArray) (hz : z = (j : Int)) (hj : j ≤ vs.length) (hv : vs.length ≤ 1000)
    (h : ∀ D h', Fr g L h' m → News g L h' ((D, { cls := .type "list", data := .seq (vs.drop j).toArray 0 }) :: news) → (∀ p ∈ news, p.1 < D) → Q (.ref D) { s with heap := h' })
    (hs : subscripted slice false (.ref l) (.ref s.heap.objs.size) = operate [.ref s.heap.objs.size, .ref l] (getItem (.ref l) (.ref s.heap.objs.size)) := by with_unfolding_all rfl) :
    wpAny (model prog w) A (subscriptTail value slice (.ref l) (.ref s.heap.objs.size)) Q E { s with heap := s.heap.push { cls := .type "slice", data := .fields #[.int z t, .none, .none] } } := by
  subst hz
  refine slice_any F N hl (.int _ _) .none (fun D h' F' N' l1 => h D h' F' ?_ l1) hs (by rw [List.size_toArray]; exact Nat.le_trans hv (by decide))
  rw [slicePick_from _ _ (by simpa using hj)] at N'
  exact N'
theorem lsl_to {value slice : PySem.Expr} {g : Heap} {L l : Addr} {m : Str → Option Value} {news : List (Addr × Obj)} {vs : List Value} {z : Int} {j : Nat} {t : Tok} {Q : Value → Shared → Prop} (F : Fr g L s.heap m) (N : News g L s.heap news) (hl : s.heap.IsList l vs.toArray) (hz : z = (j : Int)) (hv : vs.length ≤ 1000)
    (h : ∀ D h', Fr g L h' m → News g L h' ((D, { cls := .type "list", data := .seq (vs.take j).toArray 0 }) :: news) → (∀ p ∈ news, p.1 < D) → Q (.ref D) { s with heap := h' })
    (hs : subscripted slice false (.ref l) (.ref s.heap.objs.size) = operate [.ref s.heap.objs.size, .ref l] (getItem (.ref l) (.ref s.heap.objs.size)) := by with_unfolding_all rfl) :
    wpAny (model prog w) A (subscriptTail value slice (.ref l) (.ref s.heap.objs.size)) Q E { s with heap := s.heap.push { cls := .type "slice", data := .fields #[.none, .int z t, .none] } } := by
  subst hz
  refine slice_any F N hl .none (.int _ _) (fun D h' F' N' l1 => h D h' F' ?_ l1) hs (by rw [List.size_toArray]; exact Nat.le_trans hv (by decide))
  have e : slicePick vs.toArray none (some (j : Int)) none = (vs.take j).toArray := by
    rcases Nat.le_total j vs.length with hj | hj
    · rw [slicePick_upto _ _ (by simpa using hj)]
    · have := slice_full vs hj
      rw [this, List.take_of_length_le hj]
  rw [e] at N'
  exact N'
theorem ladd {g : Heap} {L l b : Addr} {m : Str → Option Value} {news : List (Addr × Obj)} {vs ws : List Value} {Q : Value → Shared → Prop} (F : Fr g L s.heap m) (N : News g L s.heap news) (hl : s.heap.IsList l vs.toArray) (hb : s.heap.IsList b ws.toArray) (hz : vs.length + ws.length ≤ 1000)
    (h : ∀ D h', Fr g L h' m → News g L h' ((D, { cls := .type "list", data := .seq (vs ++ ws).toArray 0 }) :: news) → (∀ p ∈ news, p.1 < D) → Q (.ref D) { s with heap := h' }) :
    wpAny (model prog w) A (binaryOp .Add (.ref l) (.ref b)) Q E s :=
  add_lists F N hl hb (fun h' F' N' => h _ h' F' N' fun p hp => Heap.lt_size (N p hp).1) (Nat.le_trans hz (by decide))
theorem lmul {g : Heap} {L l : Addr} {m : Str → Option Value} {news : List (Addr × Obj)} {vs : List Value} {z : Int} {n : Nat} {u : Tok} {Q : Value → Shared → Prop} (F : Fr g L s.heap m) (N : News g L s.heap news) (hl : s.heap.IsList l vs.toArray) (hz : z = (n : Int)) (hn : n ≤ 16) (hv : vs.length ≤ 16)
    (h : ∀ D h', Fr g L h' m → News g L h' ((D, { cls := .type "list", data := .seq ((List.replicate n vs).flatten).toArray 0 }) :: news) → (∀ p ∈ news, p.1 < D) → Q (.ref D) { s with heap := h' }) :
    wpAny (model prog w) A (binaryOp .Mult (.ref l) (.int z u)) Q E s := by
  subst hz
  exact KMa.mul F N hl (by omega) (by omega) (by rw [Int.toNat_natCast]; exact Nat.mul_le_mul hv hn) (by rw [Int.toNat_natCast]) h
theorem sub_dictP {value slice : PySem.Expr} {d : Addr} {o : Obj} {kvs : List (Str × Value)} {x : Str} {t : Tok} {n : Int} {Q : Value → Shared → Prop} (ho : s.heap.get? d = some o) (hd : o.IsDictOf (PySem.strKind prog w) kvs) (hv : ∃ t', valueAt kvs x = some (.int n t')) (h : ∀ t', Q (.int n t') { s with toks := s.toks + 1 })
    (hs : subscripted slice false (.ref d) (.str x t) = operate [.ref d, .str x t] (getItem (.ref d) (.str x t)) := by with_unfolding_all rfl) :
    wpAny (model prog w) A (subscriptTail value slice (.ref d) (.str x t)) Q E s := by
  obtain ⟨t', hv⟩ := hv
  exact sub_dict ho hd hv (by intro a e; cases e) (h t') hs
end
end Mine
end

section
open PySem PySem.W PyProof.Rows PySem.Calls
set_option Elab.async false
set_option linter.unusedVariables false
set_option maxRecDepth 100000
namespace Mine
/-- a sort's tree, its questions answered by lt -/
def Tq {α : Type} (n : Nat) (lt : Nat → Nat → Bool) : KasT α → (α → Prop) → Prop
  | .ret a, P => P a
  | .ask i j k, P => i < n ∧ j < n ∧ Tq n lt (k (lt i j)) P
theorem Tq.mono {α : Type} {n : Nat} {lt : Nat → Nat → Bool} {P P' : α → Prop} (hq : ∀ a, P a → P' a) : ∀ {t : KasT α}, Tq n lt t P → Tq n lt t P'
  | .ret a, h => hq a h
  | .ask i j k, h => ⟨h.1, h.2.1, Tq.mono hq h.2.2⟩
theorem Tq.bind {α β : Type} {n : Nat} {lt : Nat → Nat → Bool} {f : α → KasT β} {P : β → Prop} : ∀ {t : KasT α}, Tq n lt t (fun a => Tq n lt (f a) P) → Tq n lt (t.bind f) P
  | .ret a, h => h
  | .ask i j k, h => ⟨h.1, h.2.1, Tq.bind h.2.2⟩
theorem Tq.wp {α : Type} {n : Nat} {lt : Nat → Nat → Bool} {cmp : Nat → Nat → (Bool → Shared → Prop) → Shared → Prop} {G : Shared → Prop} {P : α → Prop} {Q : α → Shared → Prop}
    (hc : ∀ i j C s, i < n → j < n → G s → (∀ s', G s' → C (lt i j) s') → cmp i j C s) (hq : ∀ a s, P a → G s → Q a s) : ∀ {t : KasT α} {s : Shared}, Tq n lt t P → G s → t.kasWp cmp Q s
  | .ret a, s, h, g => hq a s h g
  | .ask i j k, s, h, g => hc i j _ s h.1 h.2.1 g fun s' g' => Tq.wp hc hq h.2.2 g'
section
variable {n : Nat} {r : Nat → Int}
def Kq (r : Nat → Int) (p : Array Nat) (i : Nat) : Int := r (p.getD i 0)
def SortQ (r : Nat → Int) (p : Array Nat) (k : Nat) : Prop := ∀ i j, i ≤ j → j < k → Kq r p i ≤ Kq r p j
def DecQ (r : Nat → Int) (p : Array Nat) (k : Nat) : Prop := ∀ i j, i ≤ j → j < k → Kq r p j ≤ Kq r p i
abbrev ltQ (r : Nat → Int) (i j : Nat) : Bool := decide (r i < r j)
/-- a row of the places below n -/
structure Rowq (n : Nat) (p : Array Nat) : Prop where
  perm : p.Perm (List.range n).toArray
theorem Rowq.size {p : Array Nat} (h : Rowq n p) : p.size = n := by simpa using h.perm.size_eq
theorem Rowq.lt {p : Array Nat} (h : Rowq n p) (hn : 0 < n) (i : Nat) : p.getD i 0 < n := by
  rw [Array.getD_eq_getD_getElem?]
  by_cases hi : i < p.size
  · rw [Array.getElem?_eq_getElem hi]
    have hm : p[i] ∈ p := Array.getElem_mem hi
    have := (h.perm.mem_iff).mp hm
    simpa using this
  · rw [Array.getElem?_eq_none (by omega)]; exact hn
theorem Rowq.rev {p : Array Nat} (h : Rowq n p) (i j : Nat) : Rowq n (kas_rev p i j) := ⟨(mirror_perm _ _ _ _).trans h.perm⟩
theorem Rowq.bub {p : Array Nat} (h : Rowq n p) (i j : Nat) : Rowq n (bubble p i j) := ⟨(bubble_perm _ _ _).trans h.perm⟩
theorem Kq_rev {p : Array Nat} {i j : Nat} (hj : j ≤ p.size) (k : Nat) : Kq r (kas_rev p i j) k = if i ≤ k ∧ k < j then Kq r p (i + j - 1 - k) else Kq r p k := by
  unfold Kq kas_rev
  simp only [Array.getD_eq_getD_getElem?]
  rw [getElem?_mirror_all hj]
  split <;> rfl
theorem Kq_bub {p : Array Nat} {src d : Nat} (hs : src < p.size) (hd : d ≤ src) (k : Nat) : Kq r (bubble p src d) k = if k = src - d then Kq r p src else if src - d < k ∧ k ≤ src then Kq r p (k - 1) else Kq r p k := by
  unfold Kq
  simp only [Array.getD_eq_getD_getElem?]
  rw [getElem?_bubble hs d hd]
  split
  · rfl
  · split <;> rfl
theorem Kq_rev_eq {p : Array Nat} {i j : Nat} (hj : j ≤ p.size) (he : ∀ k, i ≤ k → k < j → Kq r p k = Kq r p (j - 1)) (k : Nat) : Kq r (kas_rev p i j) k = Kq r p k := by
  rw [Kq_rev hj]
  split
  · rw [he (i + j - 1 - k) (by omega) (by omega), he k (by omega) (by omega)]
  · rfl
variable (hn : 0 < n)
include hn
theorem T_asc {p : Array Nat} (hp : Rowq n p) : ∀ (f m : Nat) {P : Nat → Prop}, (∀ m', m ≤ m' → m' ≤ m + f → (∀ i, m ≤ i → i < m' → Kq r p (i - 1) ≤ Kq r p i) → (m' < m + f → Kq r p m' < Kq r p (m' - 1)) → P m') → Tq n (ltQ r) (kas_asc p f m) P
  | 0, m, P, h => h m (Nat.le_refl _) (Nat.le_refl _) (fun i h1 h2 => by omega) (fun h => by omega)
  | f + 1, m, P, h => by
    refine ⟨hp.lt hn _, hp.lt hn _, ?_⟩
    by_cases hc : r (p.getD m 0) < r (p.getD (m - 1) 0)
    · rw [show ltQ r (p.getD m 0) (p.getD (m - 1) 0) = true from decide_eq_true hc]; dsimp only; rw [if_pos rfl]
      exact h m (Nat.le_refl _) (by omega) (fun i h1 h2 => by omega) (fun _ => hc)
    · rw [show ltQ r (p.getD m 0) (p.getD (m - 1) 0) = false from decide_eq_false hc]; dsimp only; rw [if_neg (by simp)]
      refine T_asc hp f (m + 1) fun m' h1 h2 h3 h4 => h m' (by omega) (by omega) (fun i hi1 hi2 => ?_) (fun q => h4 (by omega))
      by_cases e : i = m
      · subst e; exact Int.not_lt.mp hc
      · exact h3 i (by omega) hi2
theorem T_desc : ∀ (f : Nat) (p : Array Nat) (m q : Nat) {P : Array Nat × Nat × Nat → Prop}, Rowq n p → 1 ≤ m → m + f ≤ n → q + 1 ≤ m → DecQ r p m → (∀ k, m - (q + 1) ≤ k → k < m → Kq r p k = Kq r p (m - 1)) →
    (∀ p' m' q', Rowq n p' → m ≤ m' → m' ≤ m + f → q' + 1 ≤ m' → DecQ r p' m' → (∀ k, m' - (q' + 1) ≤ k → k < m' → Kq r p' k = Kq r p' (m' - 1)) → P (p', m', q')) → Tq n (ltQ r) (kas_desc f p m q) P
  | 0, p, m, q, P, hp, h1, hz, hq, hd, he, h => h p m q hp (Nat.le_refl _) (Nat.le_refl _) hq hd he
  | f + 1, p, m, q, P, hp, h1, hz, hq, hd, he, h => by
    have hsz := hp.size
    refine ⟨hp.lt hn _, hp.lt hn _, ?_⟩
    by_cases hc : r (p.getD m 0) < r (p.getD (m - 1) 0)
    · rw [show ltQ r (p.getD m 0) (p.getD (m - 1) 0) = true from decide_eq_true hc]; dsimp only; rw [if_pos rfl]
      have hc' : Kq r p m < Kq r p (m - 1) := hc
      have dec : DecQ r p (m + 1) := fun i j hij hj => by
        by_cases e : j = m
        · subst e
          by_cases e2 : i = j
          · subst e2; exact Int.le_refl _
          · have := hd i (j - 1) (by omega) (by omega); omega
        · exact hd i j hij (by omega)
      split
      · have ke := fun k => Kq_rev_eq (r := r) (p := p) (i := m - (q + 1)) (j := m) (by omega) he k
        refine T_desc f _ (m + 1) 0 (hp.rev _ _) (by omega) (by omega) (by omega) (fun i j hij hj => by rw [ke, ke]; exact dec i j hij hj) (fun k h1 h2 => by rw [show k = m + 1 - 1 by omega]) fun p' m' q' a b c d e g => h p' m' q' a (by omega) (by omega) d e g
      · exact T_desc f _ (m + 1) 0 hp (by omega) (by omega) (by omega) dec (fun k h1 h2 => by rw [show k = m + 1 - 1 by omega]) fun p' m' q' a b c d e g => h p' m' q' a (by omega) (by omega) d e g
    · rw [show ltQ r (p.getD m 0) (p.getD (m - 1) 0) = false from decide_eq_false hc]; dsimp only; rw [if_neg (by simp)]
      refine ⟨hp.lt hn _, hp.lt hn _, ?_⟩
      by_cases hc2 : r (p.getD (m - 1) 0) < r (p.getD m 0)
      · rw [show ltQ r (p.getD (m - 1) 0) (p.getD m 0) = true from decide_eq_true hc2]; dsimp only; rw [if_pos rfl]
        exact h p m q hp (Nat.le_refl _) (by omega) hq hd he
      · rw [show ltQ r (p.getD (m - 1) 0) (p.getD m 0) = false from decide_eq_false hc2]; dsimp only; rw [if_neg (by simp)]
        have heq : Kq r p m = Kq r p (m - 1) := by
          have a : ¬ Kq r p m < Kq r p (m - 1) := hc
          have b : ¬ Kq r p (m - 1) < Kq r p m := hc2
          omega
        have dec : DecQ r p (m + 1) := fun i j hij hj => by
          by_cases e : j = m
          · subst e
            by_cases e2 : i = j
            · subst e2; exact Int.le_refl _
            · have := hd i (j - 1) (by omega) (by omega); omega
          · exact hd i j hij (by omega)
        refine T_desc f _ (m + 1) (q + 1) hp (by omega) (by omega) (by omega) dec (fun k k1 k2 => ?_) fun p' m' q' a b c d e g => h p' m' q' a (by omega) (by omega) d e g
        rw [Nat.add_sub_cancel]
        by_cases e : k = m
        · subst e; rfl
        · rw [he k (by omega) (by omega), heq]
omit hn in
theorem sort_on {p : Array Nat} {a b : Nat} (h1 : 1 ≤ a) (hs : SortQ r p a) (hc : ∀ i, a ≤ i → i < b → Kq r p (i - 1) ≤ Kq r p i) : SortQ r p b := by
  intro i j hij hj
  induction j with
  | zero => rw [show i = 0 by omega]; exact Int.le_refl _
  | succ j ih =>
    by_cases e : i = j + 1
    · subst e; exact Int.le_refl _
    · by_cases hb : j + 1 < a
      · exact hs i (j + 1) hij hb
      · have := ih (by omega) (by omega)
        have := hc (j + 1) (by omega) hj
        rw [Nat.add_sub_cancel] at this
        omega
theorem T_tail3 {p : Array Nat} {m : Nat} {P : Nat × Array Nat → Prop} (hp : Rowq n p) (h1 : 1 ≤ m) (hm : m ≤ n) (hd : DecQ r p m) (h : ∀ m' p', Rowq n p' → 1 ≤ m' → m' ≤ n → SortQ r p' m' → P (m', p')) : Tq n (ltQ r) (kas_tail3 m n p) P := by
  refine Tq.bind (T_asc hn (hp.rev 0 m) (n - m) m fun m' a b c _ => ?_)
  have hsz := hp.size
  refine h m' _ (hp.rev 0 m) (by omega) (by omega) (sort_on h1 (fun i j hij hj => ?_) c)
  rw [Kq_rev (by omega), Kq_rev (by omega), if_pos (by omega), if_pos (by omega)]
  exact hd _ _ (by omega) (by omega)
theorem T_descPart {p : Array Nat} {m : Nat} {P : Nat × Array Nat → Prop} (hp : Rowq n p) (h1 : 1 ≤ m) (hm : m + 1 ≤ n) (hd : DecQ r p (m + 1)) (h : ∀ m' p', Rowq n p' → 1 ≤ m' → m' ≤ n → SortQ r p' m' → P (m', p')) : Tq n (ltQ r) (kas_descPart m n p) P := by
  refine Tq.bind (T_desc hn _ _ _ _ hp (by omega) (by omega) (by omega) hd (fun k h1 h2 => by rw [show k = m + 1 - 1 by omega]) fun p' m' q' a b c d e g => ?_)
  have hsz := a.size
  dsimp only
  split
  · have ke := fun k => Kq_rev_eq (r := r) (p := p') (i := m' - (q' + 1)) (j := m') (by omega) g k
    exact T_tail3 hn (a.rev _ _) (by omega) (by omega) (fun i j hij hj => by rw [ke, ke]; exact e i j hij hj) h
  · exact T_tail3 hn a (by omega) (by omega) e h
theorem T_count {p : Array Nat} {P : Nat × Array Nat → Prop} (hp : Rowq n p) (h : ∀ m' p', Rowq n p' → 1 ≤ m' → m' ≤ n → SortQ r p' m' → P (m', p')) : Tq n (ltQ r) (kas_count n p) P := by
  refine Tq.bind (T_asc hn hp (n - 1) 1 fun m a b c d => ?_)
  have hsz := hp.size
  have s1 : SortQ r p 1 := fun i j hij hj => by rw [show i = j by omega]; exact Int.le_refl _
  have sm : SortQ r p m := sort_on (Nat.le_refl 1) s1 c
  split
  · exact h m p hp (by omega) (by omega) sm
  · rename_i hne
    have hne' : m ≠ n := by simpa using hne
    have hlt : Kq r p m < Kq r p (m - 1) := d (by omega)
    split
    · refine ⟨hp.lt hn _, hp.lt hn _, ?_⟩
      by_cases hc : r (p.getD 0 0) < r (p.getD (m - 1) 0)
      · rw [show ltQ r (p.getD 0 0) (p.getD (m - 1) 0) = true from decide_eq_true hc]; dsimp only; rw [if_pos rfl]
        exact h m p hp (by omega) (by omega) sm
      · rw [show ltQ r (p.getD 0 0) (p.getD (m - 1) 0) = false from decide_eq_false hc]; dsimp only; rw [if_neg (by simp)]
        have hc' : ¬ Kq r p 0 < Kq r p (m - 1) := hc
        have all : ∀ k, 0 ≤ k → k < m → Kq r p k = Kq r p (m - 1) := fun k _ hk => by
          have h1 := sm 0 k (by omega) hk
          have h2 := sm k (m - 1) (by omega) (by omega)
          omega
        have ke := fun k => Kq_rev_eq (r := r) (p := p) (i := 0) (j := m) (by omega) all k
        refine T_descPart hn (hp.rev _ _) (by omega) (by omega) (fun i j hij hj => ?_) h
        rw [ke, ke]
        by_cases e : j = m
        · subst e
          by_cases e2 : i = j
          · subst e2; exact Int.le_refl _
          · have := all i (by omega) (by omega); omega
        · rw [all i (by omega) (by omega), all j (by omega) (by omega)]; exact Int.le_refl _
    · refine T_descPart hn hp (by omega) (by omega) (fun i j hij hj => ?_) h
      have hm1 : m = 1 := by omega
      subst hm1
      by_cases e : i = j
      · subst e; exact Int.le_refl _
      · rw [show i = 0 by omega, show j = 1 by omega]; exact Int.le_of_lt hlt
theorem T_place {p : Array Nat} (hp : Rowq n p) {k : Nat} (hs : SortQ r p k) : ∀ (f a b : Nat) {P : Nat → Prop}, a ≤ b → b ≤ k → b - a ≤ f → (∀ i, i < a → Kq r p i ≤ Kq r p k) → (∀ i, b ≤ i → i < k → Kq r p k < Kq r p i) →
    (∀ l, l ≤ k → (∀ i, i < l → Kq r p i ≤ Kq r p k) → (∀ i, l ≤ i → i < k → Kq r p k < Kq r p i) → P l) → Tq n (ltQ r) (kas_place p k f a b) P
  | 0, a, b, P, hab, hb, hf, h1, h2, h => h a (by omega) h1 (fun i hi hk => h2 i (by omega) hk)
  | f + 1, a, b, P, hab, hb, hf, h1, h2, h => by
    unfold kas_place
    split
    · exact h a (by omega) h1 (fun i hi hk => h2 i (by omega) hk)
    · refine ⟨hp.lt hn _, hp.lt hn _, ?_⟩
      by_cases hc : r (p.getD k 0) < r (p.getD ((a + b) / 2) 0)
      · rw [show ltQ r (p.getD k 0) (p.getD ((a + b) / 2) 0) = true from decide_eq_true hc]; dsimp only; rw [if_pos rfl]
        refine T_place hp hs f a ((a + b) / 2) (by omega) (by omega) (by omega) h1 (fun i hi hk => ?_) h
        have h3 : Kq r p k < Kq r p ((a + b) / 2) := hc
        have := hs ((a + b) / 2) i hi hk
        omega
      · rw [show ltQ r (p.getD k 0) (p.getD ((a + b) / 2) 0) = false from decide_eq_false hc]; dsimp only; rw [if_neg (by simp)]
        refine T_place hp hs f ((a + b) / 2 + 1) b (by omega) (by omega) (by omega) (fun i hi => ?_) h2 h
        have h3 : ¬ Kq r p k < Kq r p ((a + b) / 2) := hc
        have := hs i ((a + b) / 2) (by omega) (by omega)
        omega
theorem T_bin : ∀ (f : Nat) (p : Array Nat) (k : Nat) {P : Array Nat → Prop}, Rowq n p → k + f ≤ n → SortQ r p k → (∀ p', Rowq n p' → SortQ r p' (k + f) → P p') → Tq n (ltQ r) (kas_bin f p k) P
  | 0, p, k, P, hp, hz, hs, h => h p hp hs
  | f + 1, p, k, P, hp, hz, hs, h => by
    have hsz := hp.size
    refine Tq.bind (T_place hn hp hs k 0 k (Nat.zero_le _) (Nat.le_refl _) (by omega) (fun i hi => by omega) (fun i h1 h2 => by omega) fun l hl a b => ?_)
    refine T_bin f _ (k + 1) (hp.bub _ _) (by omega) (fun i j hij hj => ?_) fun p' a' b' => h p' a' (by rw [show k + (f + 1) = k + 1 + f by omega]; exact b')
    have e : k - (k - l) = l := by omega
    have v1 : ∀ x, x < l → Kq r (bubble p k (k - l)) x = Kq r p x := fun x hx => by rw [Kq_bub (by omega) (by omega), e, if_neg (by omega), if_neg (by omega)]
    have v2 : Kq r (bubble p k (k - l)) l = Kq r p k := by rw [Kq_bub (by omega) (by omega), e, if_pos rfl]
    have v3 : ∀ x, l < x → x ≤ k → Kq r (bubble p k (k - l)) x = Kq r p (x - 1) := fun x h1 h2 => by rw [Kq_bub (by omega) (by omega), e, if_neg (by omega), if_pos ⟨h1, h2⟩]
    rcases Nat.lt_trichotomy i l with q | q | q
    · rcases Nat.lt_trichotomy j l with q' | q' | q'
      · rw [v1 i q, v1 j q']; exact hs i j hij (by omega)
      · subst q'; rw [v1 i q, v2]; exact a i q
      · rw [v1 i q, v3 j q' (by omega)]; exact hs i (j - 1) (by omega) (by omega)
    · subst q
      rcases Nat.lt_trichotomy j i with q' | q' | q'
      · omega
      · subst q'; exact Int.le_refl _
      · rw [v2, v3 j q' (by omega)]; exact Int.le_of_lt (b (j - 1) (by omega) (by omega))
    · rw [v3 i q (by omega), v3 j (by omega) (by omega)]; exact hs (i - 1) (j - 1) (by omega) (by omega)
theorem T_sort {P : Array Nat → Prop} (h : ∀ p, Rowq n p → SortQ r p n → P p) : Tq n (ltQ r) (kas_sort n) P := by
  refine Tq.bind (T_count hn ⟨.refl _⟩ fun m' p' a b c d => ?_)
  dsimp only
  split
  · refine T_bin hn _ _ _ a (by omega) (by rw [Nat.max_eq_left b]; exact d) fun p'' a' b' => h p'' a' ?_
    rw [show max m' 1 + (n - max m' 1) = n by omega] at b'
    exact b'
  · rw [show m' = n by omega] at d
    exact h p' a d
end
end Mine
end

section
open PySem PySem.W PyProof.Rows PySem.Calls PySem.Spec PySem.MeetsSeq
set_option Elab.async false
set_option linter.unusedVariables false
set_option maxRecDepth 100000
namespace Mine
/-- lists of ints, in their order -/
def ltL : List Int → List Int → Bool
  | [], [] => false
  | [], _ :: _ => true
  | _ :: _, [] => false
  | a :: r, b :: t => if a = b then ltL r t else decide (a < b)
theorem ltL_irrefl : ∀ a, ltL a a = false
  | [] => rfl
  | a :: r => by simp [ltL, ltL_irrefl r]
theorem ltL_trans : ∀ a b c, ltL a b = true → ltL b c = true → ltL a c = true
  | [], [], _, h, _ => by simp [ltL] at h
  | [], _ :: _, [], _, h => by simp [ltL] at h
  | [], _ :: _, _ :: _, _, _ => rfl
  | _ :: _, [], _, h, _ => by simp [ltL] at h
  | _ :: _, _ :: _, [], _, h => by simp [ltL] at h
  | a :: r, b :: t, c :: u, h1, h2 => by
    simp only [ltL] at h1 h2 ⊢
    by_cases e1 : a = b
    · subst e1
      simp only [if_true] at h1
      by_cases e2 : a = c
      · subst e2
        simp only [if_true] at h2 ⊢
        exact ltL_trans r t u h1 h2
      · simpa [e2] using h2
    · simp only [e1, if_false, decide_eq_true_eq] at h1
      by_cases e2 : b = c
      · subst e2
        simp [e1, h1]
      · simp only [e2, if_false, decide_eq_true_eq] at h2
        have : a ≠ c := by omega
        simp only [this, if_false, decide_eq_true_eq]
        omega
theorem ltL_total : ∀ a b, ltL a b = false → ltL b a = false → a = b
  | [], [], _, _ => rfl
  | [], _ :: _, h, _ => by simp [ltL] at h
  | _ :: _, [], _, h => by simp [ltL] at h
  | a :: r, b :: t, h1, h2 => by
    simp only [ltL] at h1 h2
    by_cases e : a = b
    · subst e
      simp only [if_true] at h1 h2
      rw [ltL_total r t h1 h2]
    · have e' : ¬ b = a := fun q => e q.symm
      simp only [e, e', if_false, decide_eq_false_iff_not] at h1 h2
      omega
theorem neg_of_total {α : Type} {lt : α → α → Bool} (ht : ∀ a b c, lt a b = true → lt b c = true → lt a c = true) (hn : ∀ a b, lt a b = false → lt b a = false → a = b) (a b c : α) (h : lt a c = true) : lt a b = true ∨ lt b c = true := by
  cases h1 : lt a b with
  | true => exact .inl rfl
  | false =>
    cases h2 : lt b a with
    | true => exact .inr (ht _ _ _ h2 h)
    | false => rw [← hn _ _ h1 h2]; exact .inr h
/-- places by counting -/
def rankBy {α : Type} (lt : α → α → Bool) (f : Nat → α) (n i : Nat) : Int := (((List.range n).filter fun j => lt (f j) (f i)).length : Int)
theorem filter_le {α : Type} {p q : α → Bool} (h : ∀ x, q x = true → p x = true) : ∀ l : List α, (l.filter q).length ≤ (l.filter p).length
  | [] => by simp
  | c :: t => by
    have ih := filter_le h t
    simp only [List.filter_cons]
    cases hqc : q c with
    | false => cases p c <;> simp <;> omega
    | true => rw [h c hqc]; simp; omega
theorem filter_lt2 {α : Type} {p q : α → Bool} {a : α} (h : ∀ x, q x = true → p x = true) (hp : p a = true) (hq : q a = false) : ∀ l : List α, a ∈ l → (l.filter q).length < (l.filter p).length
  | b :: t, hm => by
    rcases List.mem_cons.mp hm with rfl | hm
    · have := filter_le h t
      simp only [List.filter_cons, hp, hq, if_true, Bool.false_eq_true, if_false, List.length_cons]
      omega
    · have ih := filter_lt2 h hp hq t hm
      simp only [List.filter_cons]
      cases hqc : q b with
      | false => cases p b <;> simp <;> omega
      | true => rw [h b hqc]; simp; omega
theorem rankBy_lt {α : Type} {lt : α → α → Bool} (hi : ∀ a, lt a a = false) (ht : ∀ a b c, lt a b = true → lt b c = true → lt a c = true) (hn : ∀ a b, lt a b = false → lt b a = false → a = b) (f : Nat → α) {n i j : Nat} (h1 : i < n) (h2 : j < n) :
    ltQ (rankBy lt f n) i j = lt (f i) (f j) := by
  unfold ltQ rankBy
  cases h : lt (f i) (f j) with
  | true =>
    have := filter_lt2 (p := fun x => lt (f x) (f j)) (q := fun x => lt (f x) (f i)) (a := i) (fun x hx => ht _ _ _ hx h) h (hi _) (List.range n) (List.mem_range.mpr h1)
    exact decide_eq_true (by omega)
  | false =>
    have := filter_le (p := fun x => lt (f x) (f i)) (q := fun x => lt (f x) (f j)) (fun x hx => by
      rcases neg_of_total ht hn _ (f i) _ hx with q | q
      · exact q
      · rw [h] at q; cases q) (List.range n)
    exact decide_eq_false (by omega)
end Mine
end

section
open PySem PySem.W PyProof.Rows PySem.Calls PySem.Spec
open PySem.MeetsSeq PySem.MeetsSeq2 PySem.MeetsSeq3 PySem.SeqRoads2 PySem.SeqAt
open PySem.AutoSeq1 (wpAny_loadPart')
set_option Elab.async false
set_option linter.unusedVariables false
set_option maxRecDepth 100000
namespace Mine
theorem ints_get {vs : List Value} {ns : List Int} (h : IntsAre vs ns) : ∀ i : Nat, (∀ n, ns[i]? = some n → ∃ t, vs[i]? = some (.int n t)) ∧ (ns[i]? = none → vs[i]? = none) := by
  induction h with
  | nil => intro i; simp
  | cons a t _ ih =>
    intro i
    cases i with
    | zero => simp
    | succ i => simpa using ih i
theorem lt_loop (l b : Addr) (vs ws : List Value) (ns ms : List Int) (hv : IntsAre vs ns) (hw : IntsAre ws ms) (n n2 : Nat) (dd dd2 : Option Addr) (sl sl2 : Array (Option Value)) (k : Nat) :
    ∀ i : Nat, ns.length - i = k → i ≤ ns.length → i ≤ ms.length → Meets (Builtin.«list.__eq__.loop» ⟨[.ref l, .ref b, rawInt i, rawInt 0], []⟩)
      (fun A R s => s.heap.get? l = some { cls := .type "list", dict := dd, data := .seq vs.toArray n, slots := sl } ∧ s.heap.get? b = some { cls := .type "list", dict := dd2, data := .seq ws.toArray n2, slots := sl2 } ∧
        R (.ok (.ret (.bool (ltL (ns.drop i) (ms.drop i))))) s) := by
  have hvl := hv.length
  have hwl := hw.length
  induction k with
  | zero =>
    intro i hk hi hi' prog w A R s h
    obtain ⟨hp, g, d, tk, os⟩ := s; obtain ⟨hl, hb, h⟩ := h
    wp_walk using wpAny_loadPart' hl, wpAny_loadPart' hb
    have hi1 : vs.toArray[((i : Nat) : Int).toNat]? = none := by simp; omega
    rw [hi1]
    have e : ltL (ns.drop i) (ms.drop i) = decide (vs.toArray.size < ws.toArray.size) := by
      rw [List.drop_of_length_le (show ns.length ≤ i by omega), List.size_toArray, List.size_toArray]
      cases hd : ms.drop i with
      | nil =>
        have := congrArg List.length hd
        simp at this
        simp [ltL]; omega
      | cons x r =>
        have := congrArg List.length hd
        simp at this
        simp [ltL]; omega
    rw [e] at h
    cases ws.toArray[((i : Nat) : Int).toNat]? with
    | none =>
      wp_walk using wpAny_loadPart' hl, wpAny_loadPart' hb
      exact h
    | some y =>
      wp_walk using wpAny_loadPart' hl, wpAny_loadPart' hb
      exact h
  | succ k ih =>
    intro i hk hi hi' prog w A R s h
    obtain ⟨hp, g, d, tk, os⟩ := s; obtain ⟨hl, hb, h⟩ := h
    wp_walk using wpAny_loadPart' hl, wpAny_loadPart' hb
    have hlt : i < ns.length := by omega
    obtain ⟨t1, g1⟩ := (ints_get hv i).1 ns[i] (List.getElem?_eq_getElem hlt)
    have hi1 : vs.toArray[((i : Nat) : Int).toNat]? = some (.int ns[i] t1) := by simpa using g1
    have hc : ((i : Int) + 1) = ((i + 1 : Nat) : Int) := by push_cast; rfl
    have hd1 : ns.drop i = ns[i] :: ns.drop (i + 1) := List.drop_eq_getElem_cons hlt
    rw [hi1]
    by_cases hlt2 : i < ms.length
    · obtain ⟨t2, g2⟩ := (ints_get hw i).1 ms[i] (List.getElem?_eq_getElem hlt2)
      have hi2 : ws.toArray[((i : Nat) : Int).toNat]? = some (.int ms[i] t2) := by simpa using g2
      have hd2 : ms.drop i = ms[i] :: ms.drop (i + 1) := List.drop_eq_getElem_cons hlt2
      rw [hi2]
      rw [hd1, hd2, ltL] at h
      refine wpAny_bind (wpAny_eqBool_int ?_)
      by_cases he : ns[i] = ms[i]
      · rw [if_pos he] at h
        rw [show (ns[i] == ms[i]) = true by simpa using he]
        wp_walk
        rw [hc]
        exact ⟨plainId_quiet plain_eq_loop _, codeAny_builtin entry_eq_loop (by
          rw [Around.under_plainId plain_eq_loop _]
          exact ih (i + 1) (by omega) (by omega) (by omega) prog w A R _ ⟨hl, hb, h⟩)⟩
      · rw [if_neg he] at h
        rw [show (ns[i] == ms[i]) = false by simpa using he]
        wp_walk using wpAny_loadPart' hl, wpAny_loadPart' hb
        rw [hi1, hi2]
        refine wpAny_bind (wpAny_richCompare_same (typeIs_int _ _ _) (typeIs_int _ _ _) slot_int_lt (call_int_lt ⟨by simp, wpAny_pure h⟩) rfl)
    · have hi2 : ws.toArray[((i : Nat) : Int).toNat]? = none := by simp; omega
      rw [hi2]
      have e : ltL (ns.drop i) (ms.drop i) = decide (vs.toArray.size < ws.toArray.size) := by
        rw [hd1, List.drop_of_length_le (show ms.length ≤ i by omega), List.size_toArray, List.size_toArray]
        simp [ltL]; omega
      rw [e] at h
      wp_walk using wpAny_loadPart' hl, wpAny_loadPart' hb
      exact h
theorem list_lt (l b : Addr) (vs ws : List Value) (ns ms : List Int) (hv : IntsAre vs ns) (hw : IntsAre ws ms) (n n2 : Nat) (dd dd2 : Option Addr) (sl sl2 : Array (Option Value)) :
    Meets (Builtin.«list.__lt__» ⟨[.ref l, .ref b], []⟩)
      (fun A R s => s.heap.get? l = some { cls := .type "list", dict := dd, data := .seq vs.toArray n, slots := sl } ∧ s.heap.get? b = some { cls := .type "list", dict := dd2, data := .seq ws.toArray n2, slots := sl2 } ∧
        R (.ok (.ret (.bool (ltL ns ms)))) s) := by
  intro prog w A R s h
  obtain ⟨hp, g, d, tk, os⟩ := s; obtain ⟨hl, hb, h⟩ := h
  have f3 := AutoSeq1.sub_list_list
  wp_walk using wpAny_loadPart' hl, wpAny_loadPart' hb
  exact ⟨plainId_quiet plain_eq_loop _, codeAny_builtin entry_eq_loop (by
    rw [Around.under_plainId plain_eq_loop _]
    exact lt_loop l b vs ws ns ms hv hw n n2 dd dd2 sl sl2 _ 0 rfl (Nat.zero_le _) (Nat.zero_le _) prog w A R _ ⟨hl, hb, by simpa using h⟩)⟩
section
variable {prog : Program} {w : World} {A : Around} {E : Value → Shared → Prop} {s : Shared}
theorem call_list_lt {l b : Addr} {vs ws : List Value} {ns ms : List Int} {n n2 : Nat} {Q : Value → Shared → Prop} (hl : s.heap.get? l = some { cls := .type "list", data := .seq vs.toArray n }) (hb : s.heap.get? b = some { cls := .type "list", data := .seq ws.toArray n2 }) (hv : IntsAre vs ns) (hw : IntsAre ws ms)
    (h : Q (.bool (ltL ns ms)) s) : wpAny (model prog w) A (call (.builtin "list.__lt__") [.ref l, .ref b]) Q E s :=
  call_meets PySem.F.slot_list_lt ⟨_, hl, rfl⟩ PySem.F.entry_list_lt (PySem.F.args_list_lt_2 _ _) (list_lt l b vs ws ns ms hv hw n n2 none none #[] #[]) ⟨hl, hb, h⟩
theorem oneLt_list {l b : Addr} {vs ws : List Value} {ns ms : List Int} {n n2 : Nat} {Q : Bool → Shared → Prop} (hu : A.units < cLine) (hl : s.heap.get? l = some { cls := .type "list", data := .seq vs.toArray n }) (hb : s.heap.get? b = some { cls := .type "list", data := .seq ws.toArray n2 }) (hv : IntsAre vs ns) (hw : IntsAre ws ms)
    (h : Q (ltL ns ms) s) : wpAny (model prog w) A (oneLt' true (.ref l) (.ref b)) Q E s := by
  rw [oneLt'_eq]
  simp only [if_true]
  refine wpAny_bind (wpAny_cRoomFor hu ?_)
  refine wpAny_bind (wpAny_callSpecialIfBound?_slot ⟨_, hl, rfl⟩ PySem.F.slot_list_lt (call_list_lt hl hb hv hw ?_))
  exact wpAny_truthy_bool h
end
end Mine
end

section
open PySem PySem.W PyProof.Rows PySem.Calls PySem.Spec
set_option Elab.async false
set_option linter.unusedVariables false
set_option maxRecDepth 100000
namespace Mine
section
variable {prog : Program} {w : World} {A : Around} {E : Value → Shared → Prop} {s : Shared}
theorem sorted_gen {α : Type} {lt : α → α → Bool} (hi : ∀ a, lt a a = false) (ht : ∀ a b c, lt a b = true → lt b c = true → lt a c = true) (hn : ∀ a b, lt a b = false → lt b a = false → a = b) (f : Nat → α) {κ : SortKind}
    {g : Heap} {L l : Addr} {m : Str → Option Value} {news : List (Addr × Obj)} {vs : List Value} {Q : Value → Shared → Prop} (F : Fr g L s.heap m) (N : News g L s.heap news) (hl : s.heap.IsList l vs.toArray) (h2 : 2 ≤ vs.length) (h64 : vs.length < 64)
    (hk : ∀ h' (Q' : SortKind → Shared → Prop), Fr g L h' m → News g L h' news → Q' κ { s with heap := h' } → wpAny (model prog w) A.in1.in1 (keyKind' vs.toArray) Q' (fun _ _ => False) { s with heap := h' })
    (hc : ∀ i j h' (C : Bool → Shared → Prop), i < vs.length → j < vs.length → Fr g L h' m → News g L h' news → C (lt (f i) (f j)) { s with heap := h' } → wpAny (model prog w) A.in1.in1 (keyLt' κ (vs.getD i Value.none) (vs.getD j Value.none)) C (fun _ _ => False) { s with heap := h' })
    (h : ∀ D e h' p, Rowq vs.length p → (∀ i j, i ≤ j → j < vs.length → lt (f (p.getD j 0)) (f (p.getD i 0)) = false) → Fr g L h' m → News g L h' ((D, listOf (List.toArray (p.toList.map fun i => vs.getD i Value.none)) e) :: news) → (∀ q ∈ news, q.1 < D) → Q (.ref D) { s with heap := h' }) :
    wpAny (model prog w) A (call (.builtin "sorted") [.ref l]) Q E s := by
  refine kat_sorted F N hl h2 h64 fun D e1 h' F' N' hD => ?_
  refine hk h' _ F' (fun p hp => N' p (.tail _ hp)) ?_
  refine Tq.wp (n := vs.length) (lt := ltQ (rankBy lt f vs.length)) (G := fun s' => ∃ h', s' = { s with heap := h' } ∧ Fr g L h' m ∧ News g L h' ((D, seqObj "list" #[] e1) :: news)) (P := fun p => Rowq vs.length p ∧ SortQ (rankBy lt f vs.length) p vs.length) ?_ ?_ (T_sort (by omega) fun p a b => ⟨a, b⟩) ⟨h', rfl, F', N'⟩
  · rintro i j C s' hi' hj ⟨h1, rfl, F1, N1⟩ hC
    refine hc i j h1 C hi' hj F1 (fun p hp => N1 p (.tail _ hp)) ?_
    have := hC _ ⟨h1, rfl, F1, N1⟩
    rw [rankBy_lt hi ht hn f hi' hj] at this
    exact this
  · rintro p s' ⟨hp, hs⟩ ⟨h1, rfl, F1, N1⟩
    refine KasFin.intro F1 N1 (.head ?_) fun h2 c F2 N2 => ?_
    · exact fun q hq => Nat.ne_of_lt (hD q hq)
    · refine h D c h2 p hp (fun i j hij hj => ?_) F2 N2 hD
      have h0 : 0 < vs.length := by omega
      have q := hs i j hij hj
      have := rankBy_lt hi ht hn f (hp.lt h0 j) (hp.lt h0 i)
      rw [← this]
      exact decide_eq_false (Int.not_lt.mpr q)
end
end Mine
end

section
open PySem PySem.W PyProof.Rows PySem.Calls PySem.Spec
set_option Elab.async false
set_option linter.unusedVariables false
set_option maxRecDepth 100000
namespace Mine
section
variable {prog : Program} {w : World} {A : Around} {E : Value → Shared → Prop} {s : Shared}
/-- refs to lists of ints, told by the ledger -/
def KeysIn (news : List (Addr × Obj)) (vs : List Value) (keys : List (List Int)) : Prop := Paired (fun v k => ∃ a ws e, v = Value.ref a ∧ (a, ({ cls := .type "list", data := .seq (List.toArray ws) e } : Obj)) ∈ news ∧ IntsAre ws k) vs keys
theorem getD_some {α : Type} {l : List α} {i : Nat} {x d : α} (h : l[i]? = some x) : l.getD i d = x := by rw [List.getD_eq_getElem?_getD, h]; rfl
theorem sorted_lists {g : Heap} {L l : Addr} {m : Str → Option Value} {news : List (Addr × Obj)} {vs : List Value} {keys : List (List Int)} {Q : Value → Shared → Prop} (F : Fr g L s.heap m) (N : News g L s.heap news) (hl : s.heap.IsList l vs.toArray) (h2 : 2 ≤ vs.length) (h64 : vs.length < 64) (hu : A.units + 10 < cLine)
    (hk : KeysIn news vs keys)
    (h : ∀ D e h' p, Rowq vs.length p → (∀ i j, i ≤ j → j < vs.length → ltL (keys.getD (p.getD j 0) []) (keys.getD (p.getD i 0) []) = false) → Fr g L h' m → News g L h' ((D, listOf (List.toArray (p.toList.map fun i => vs.getD i Value.none)) e) :: news) → (∀ q ∈ news, q.1 < D) → Q (.ref D) { s with heap := h' }) :
    wpAny (model prog w) A (call (.builtin "sorted") [.ref l]) Q E s := by
  refine sorted_gen (κ := oneType') ltL_irrefl ltL_trans ltL_total (fun i => keys.getD i []) F N hl h2 h64 ?_ ?_ h
  · intro h' Q' F' N' hQ
    refine kas_kind h2 (T := .type "list") (fun v hv => ?_) (by decide) (by decide) hQ
    obtain ⟨i, hi, rfl⟩ := List.getElem_of_mem hv
    obtain ⟨k, hk1, a, ws, e, ha, hm, hi'⟩ := paired_at2 hk i (List.getElem?_eq_getElem hi)
    rw [ha]
    intro A' Q'' E' s' hs hq
    exact wpAny_typeOf_ref (hs _ _ (N' _ hm).1) hq
  · intro i j h' C hi hj F' N' hC
    obtain ⟨k1, hk1, a, ws, e, ha, hm, hi1⟩ := paired_at2 hk i (List.getElem?_eq_getElem hi)
    obtain ⟨k2, hk2, b, us, e2, hb, hm2, hi2⟩ := paired_at2 hk j (List.getElem?_eq_getElem hj)
    rw [getD_some (List.getElem?_eq_getElem hi), getD_some (List.getElem?_eq_getElem hj), ha, hb, keyLt'_oneType]
    rw [getD_some hk1, getD_some hk2] at hC
    refine oneLt_list ?_ (N' _ hm).1 (N' _ hm2).1 hi1 hi2 hC
    show A.units + 1 + 1 < cLine
    omega
end
end Mine
end

section
open PySem PySem.W PyProof.Rows PySem.Calls PySem.Spec PySem.SeqAt
set_option Elab.async false
set_option linter.unusedVariables false
set_option maxRecDepth 100000
namespace Mine
/-- rows, in their order -/
def ltR (a b : List Int × Str) : Bool := if a.1 = b.1 then decide (a.2.cps.toList < b.2.cps.toList) else ltL a.1 b.1
theorem str_eq {a b : Str} (h : a.cps.toList = b.cps.toList) : a = b := by
  cases a; cases b; simp only [Str.mk.injEq]; exact Array.toList_inj.mp h
theorem ltR_irrefl (a : List Int × Str) : ltR a a = false := by
  simp only [ltR, if_true, decide_eq_false_iff_not]; exact List.lt_irrefl _
theorem ltR_trans (a b c : List Int × Str) (h1 : ltR a b = true) (h2 : ltR b c = true) : ltR a c = true := by
  obtain ⟨a1, a2⟩ := a; obtain ⟨b1, b2⟩ := b; obtain ⟨c1, c2⟩ := c
  simp only [ltR] at h1 h2 ⊢
  by_cases e1 : a1 = b1
  · subst e1
    simp only [if_true, decide_eq_true_eq] at h1
    by_cases e2 : a1 = c1
    · subst e2
      simp only [if_true, decide_eq_true_eq] at h2 ⊢
      exact List.lt_trans h1 h2
    · simpa [e2] using h2
  · simp only [e1, if_false] at h1
    by_cases e2 : b1 = c1
    · subst e2; simpa [e1] using h1
    · simp only [e2, if_false] at h2
      have := ltL_trans _ _ _ h1 h2
      have hne : ¬ a1 = c1 := by
        rintro rfl
        rw [ltL_irrefl] at this; cases this
      simpa [hne] using this
theorem ltR_total (a b : List Int × Str) (h1 : ltR a b = false) (h2 : ltR b a = false) : a = b := by
  obtain ⟨a1, a2⟩ := a; obtain ⟨b1, b2⟩ := b
  simp only [ltR] at h1 h2
  by_cases e : a1 = b1
  · subst e
    simp only [if_true, decide_eq_false_iff_not] at h1 h2
    have : a2 = b2 := str_eq (List.le_antisymm (List.not_lt.mp h2) (List.not_lt.mp h1))
    rw [this]
  · have e' : ¬ b1 = a1 := fun q => e q.symm
    simp only [e, e', if_false] at h1 h2
    exact absurd (ltL_total _ _ h1 h2) e
theorem canLay_ints : ∀ ns : List Int, PyData.canLayAll0 (ns.map PyData.int) = true := ke_canLayAll0
section
variable {prog : Program} {w : World} {A : Around} {E : Value → Shared → Prop} {s : Shared}
theorem eqBool_ints {l b : Addr} {vs ws : List Value} {ns ms : List Int} {n n2 : Nat} {Q : Bool → Shared → Prop} (hu : A.units + 10 < cLine) (hl : s.heap.get? l = some { cls := .type "list", data := .seq vs.toArray n }) (hb : s.heap.get? b = some { cls := .type "list", data := .seq ws.toArray n2 }) (hv : IntsAre vs ns) (hw : IntsAre ws ms)
    (h : Q (decide (ns = ms)) s) : wpAny (model prog w) A (eqBool (.ref l) (.ref b)) Q E s := by
  have := eqAt_reads _ _ A s _ _ _ _ (reads_newData ⟨_, hl, rfl, _, rfl⟩ (ke_carried hv)) (reads_newData ⟨_, hb, rfl, _, rfl⟩ (ke_carried hw)) (by simp [PyData.canLay0, ke_canLayAll0]) (by simp [PyData.canLay0, ke_canLayAll0]) (by simp [PyData.depth, ke_depthAll]; omega)
  refine this prog w E Q ?_
  have e : PyData.eqv (.list (ns.map PyData.int)) (.list (ms.map PyData.int)) = decide (ns = ms) := by simp only [PyData.eqv]; exact ked_eqvAll ns ms
  rw [e]; exact h
/-- refs to rows, told by the ledger -/
def RowsN (news : List (Addr × Obj)) (vs : List Value) (rows : List (List Int × Str)) : Prop := Paired (fun v (r : List Int × Str) => ∃ a b ws e t, v = Value.ref a ∧ (a, ({ cls := .type "tuple", data := .seq (List.toArray [Value.ref b, Value.str r.2 t]) 0 } : Obj)) ∈ news ∧ (b, ({ cls := .type "list", data := .seq (List.toArray ws) e } : Obj)) ∈ news ∧ IntsAre ws r.1) vs rows
theorem rows_tups {g h : Heap} {L : Addr} {news : List (Addr × Obj)} {vs : List Value} {rows : List (List Int × Str)} (N : News g L h news) (hr : RowsN news vs rows) : ∃ fs : List Value, KatTups h vs fs ∧ fs.length = vs.length ∧ ∀ f ∈ fs, ∃ b ws e, f = .ref b ∧ (b, ({ cls := .type "list", data := .seq (List.toArray ws) e } : Obj)) ∈ news := by
  unfold RowsN at hr
  induction hr with
  | nil => exact ⟨[], KatTups.nil, rfl, by simp⟩
  | cons h1 _ ih =>
    obtain ⟨a, b, ws, e, t, rfl, m1, m2, _⟩ := h1
    obtain ⟨fs, k, hl, hf⟩ := ih
    refine ⟨.ref b :: fs, KatTups.cons (N _ m1).1 rfl rfl rfl k, by simp [hl], ?_⟩
    intro f hm
    rcases List.mem_cons.mp hm with rfl | hm
    · exact ⟨b, ws, e, rfl, m2⟩
    · exact hf f hm
theorem sorted_rows {g : Heap} {L l : Addr} {m : Str → Option Value} {news : List (Addr × Obj)} {vs : List Value} {rows : List (List Int × Str)} {Q : Value → Shared → Prop} (F : Fr g L s.heap m) (N : News g L s.heap news) (hl : s.heap.IsList l vs.toArray) (h2 : 2 ≤ vs.length) (h64 : vs.length < 64) (hu : A.units + 20 < cLine)
    (hk : RowsN news vs rows)
    (h : ∀ D e h' p, Rowq vs.length p → (∀ i j, i ≤ j → j < vs.length → ltR (rows.getD (p.getD j 0) ([], Str.empty)) (rows.getD (p.getD i 0) ([], Str.empty)) = false) → Fr g L h' m → News g L h' ((D, listOf (List.toArray (p.toList.map fun i => vs.getD i Value.none)) e) :: news) → (∀ q ∈ news, q.1 < D) → Q (.ref D) { s with heap := h' }) :
    wpAny (model prog w) A (call (.builtin "sorted") [.ref l]) Q E s := by
  refine sorted_gen (κ := tuples' true) ltR_irrefl ltR_trans ltR_total (fun i => rows.getD i ([], Str.empty)) F N hl h2 h64 ?_ ?_ h
  · intro h' Q' F' N' hQ
    obtain ⟨fs, kt, hfl, hf⟩ := rows_tups N' hk
    refine kat_kind (T := .type "list") kt (by omega) (fun v hv => ?_) (by decide) hQ
    obtain ⟨b, ws, e, rfl, hm⟩ := hf v hv
    intro A' Q'' E' s' hs hq
    exact wpAny_typeOf_ref (hs _ _ (N' _ hm).1) hq
  · intro i j h' C hi hj F' N' hC
    obtain ⟨⟨k1, q1⟩, hk1, a, b, ws, e, t, ha, hm, hm', hi1⟩ := paired_at2 hk i (List.getElem?_eq_getElem hi)
    obtain ⟨⟨k2, q2⟩, hk2, a', b', us, e2, t', ha', hm2, hm2', hi2⟩ := paired_at2 hk j (List.getElem?_eq_getElem hj)
    rw [getD_some (List.getElem?_eq_getElem hi), getD_some (List.getElem?_eq_getElem hj), ha, ha']
    rw [getD_some hk1, getD_some hk2] at hC
    refine kat_lt (N' _ hm).1 rfl (N' _ hm2).1 rfl ?_
    refine kat_cons (eqBool_ints (show A.units + 1 + 1 + 10 < cLine by omega) (N' _ hm').1 (N' _ hm2').1 hi1 hi2 ?_)
    refine kat_go (fun he => kat_yes ?_) (fun he => kat_no ?_)
    · have he' : k1 = k2 := by simpa using he
      subst he'
      refine kat_cons (wpAny_eqBool_str ?_)
      refine kat_go (fun hq => kat_yes (kat_nil ?_)) (fun hq => kat_no (kat_one _ _ (lt_str ?_)))
      · have hq' : q1 = q2 := by simpa using hq
        subst hq'
        rw [ltR_irrefl] at hC
        simpa using hC
      · show C _ _
        simpa [ltR] using hC
    · have he' : ¬ k1 = k2 := by simpa using he
      refine oneLt_list (show A.units + 1 + 1 < cLine by omega) (N' _ hm').1 (N' _ hm2').1 hi1 hi2 ?_
      simpa [ltR, he'] using hC
end
end Mine
end

section
open PySem PySem.W PyProof.Rows PySem.Calls PySem.Spec
set_option Elab.async false
set_option linter.unusedVariables false
set_option maxRecDepth 100000
namespace Mine
section
variable {prog : Program} {w : World} {A : Around} {E : Value → Shared → Prop} {s : Shared}
theorem sort_short {a : Addr} {vs : List Value} {n : Nat} {P : PySem.Fin → Shared → Prop} (ho : s.heap.get? a = some (seqObj "list" vs.toArray n)) (h1 : vs.length < 2)
    (h : P (.done (.ret .none)) { s with heap := sortedHeap s.heap a vs vs.toArray }) :
    wpAny (model prog w) A (Builtin.«list.sort» ⟨[.ref a], []⟩) P E s := by
  rw [list_sort_plain]
  have ha : a < s.heap.objs.size := Heap.lt_size ho
  have hz : vs.length ≤ sizeLine := Nat.le_trans (Nat.le_of_lt h1) (by decide)
  refine wpAny_bind (listItems_at ho rfl ?_)
  refine wpAny_bind (listUpdate_at ho rfl ?_)
  obtain ⟨e1, ho1⟩ : ∃ e1, (s.heap.update a (Obj.mapSeq fun _ => #[])).get? a = some (seqObj "list" #[] e1) := ⟨_, get?_update_seq ho (fun _ => #[])⟩
  refine wpAny_bind (seqEpoch_at ho1 rfl ?_)
  refine wpAny_bind (wpAny_newTuple ?_ (by simpa using hz))
  refine wpAny_bind (wpAny_newList ?_)
  refine wpAny_holding ?_
  have ho6 : (((s.heap.update a (Obj.mapSeq fun _ => #[])).push (seqObj "tuple" vs.toArray 0)).push (seqObj "list" #[] 0)).get? a = some (seqObj "list" #[] e1) := by
    rw [Heap.get?_push_ne _ _ _ (by rw [size_push', Heap.size_update]; exact Nat.ne_of_lt (Nat.lt_succ_of_lt ha)), Heap.get?_push_ne _ _ _ (by rw [Heap.size_update]; exact Nat.ne_of_lt ha)]
    exact ho1
  show wpAny (model prog w) A _ P E { s with heap := ((s.heap.update a (Obj.mapSeq fun _ => #[])).push (seqObj "tuple" vs.toArray 0)).push (seqObj "list" #[] 0) }
  dsimp only
  have h2 : vs.toArray.size < 2 := by simpa using h1
  have hm : (vs.toArray.zip vs.toArray).map (·.2) = vs.toArray := by
    have := Array.map_snd_zip (as := vs.toArray) (bs := vs.toArray) (Nat.le_refl _)
    exact this
  rw [if_pos h2, if_pos h2]
  refine wpAny_bind (wpAny_pure ?_)
  rw [StateT.run_pure]
  refine wpAny_bind (wpAny_pure ?_)
  dsimp only
  refine wpAny_bind (seqEpoch_at ho6 rfl ?_)
  refine wpAny_bind (listUpdate_at ho6 rfl ?_ (hsz2 := by rw [Array.size_map]; show (pairsOf vs).size ≤ _; rw [pairsOf_size, sizeLine_eq]; omega))
  simp only [bne_self_eq_false, Bool.false_eq_true, if_false]
  refine wpAny_pure ?_
  have e : (arrOf (SortSt.mk' general' (vs.toArray.zip vs.toArray) #[] 7 none)).map (·.2) = vs.toArray := hm
  rw [e]
  exact h
theorem sorted_short {g : Heap} {L l : Addr} {m : Str → Option Value} {news : List (Addr × Obj)} {vs : List Value} {Q : Value → Shared → Prop} (F : Fr g L s.heap m) (N : News g L s.heap news) (hl : s.heap.IsList l vs.toArray) (h1 : vs.length < 2)
    (h : ∀ D e h', Fr g L h' m → News g L h' ((D, listOf vs.toArray e) :: news) → (∀ q ∈ news, q.1 < D) → Q (.ref D) { s with heap := h' }) :
    wpAny (model prog w) A (call (.builtin "sorted") [.ref l]) Q E s := by
  have hz : vs.length ≤ sizeLine := Nat.le_trans (Nat.le_of_lt h1) (by decide)
  refine Calls.call_function_entry kind_sorted plain_sorted entry_sorted (args_sorted1 _) ?_
  unfold Builtin.«sorted»
  refine wpAny_bind (m := checkCount "sorted" 1 1 _) (wpAny_pure ?_)
  refine wpAny_bind (collect_list hl ?_ hz)
  refine wpAny_bind (wpAny_newList ?_ (by simpa using hz))
  have hsz : ((s.heap.push (seqObj "list" #[] 0)).update s.heap.objs.size (Obj.mapSeq (· ++ vs.toArray))).objs.size = s.heap.objs.size + 1 := by
    rw [Heap.size_update, size_push']
  have hoL : (((s.heap.push (seqObj "list" #[] 0)).update s.heap.objs.size (Obj.mapSeq (· ++ vs.toArray))).push (seqObj "list" vs.toArray 0)).get? (s.heap.objs.size + 1) = some (seqObj "list" vs.toArray 0) := by
    rw [← hsz]; exact Heap.get?_push_size _ rfl
  show wpAny _ _ _ _ _ { s with heap := ((s.heap.push (seqObj "list" #[] 0)).update s.heap.objs.size (Obj.mapSeq (· ++ vs.toArray))).push (seqObj "list" vs.toArray 0) }
  rw [hsz]
  refine wpAny_bind (wpAny_holding (wpAny_call_entry slot_list_sort ⟨_, hoL, rfl⟩ entry_list_sort (sort_short hoL h1 ⟨_, rfl, ?_⟩) (args_list_sort _)))
  refine wpAny_pure ⟨_, rfl, ?_⟩
  obtain ⟨e, he⟩ := sortedAll_at s.heap vs vs.toArray
  exact h _ e _ (F.kept fun _ _ => sortedAll_old) (N.kept_cons F (fun _ _ => sortedAll_old) (Nat.le_succ _) he) fun q hq => Nat.lt_succ_of_lt (Heap.lt_size (N q hq).1)
end
end Mine
end

section
open PySem PySem.W PyProof.Rows PySem.Calls
set_option Elab.async false
set_option linter.unusedVariables false
set_option maxRecDepth 100000
namespace Mine
section
variable (prog : Program) (w : World) (A : Around) (env : Env) (elt iter1 : PySem.Expr) (x0 x1 y : Str) (ifs0 ifs1 : List PySem.Expr) (scope : Scope) (cl : List (Str × Addr)) (Q : Flow → Shared → Prop)
inductive C2AI (n : Nat) (P : Nat → Value → Prop) (s₁ : Shared) (m : Str → Option Value) (g : Heap) (news : List (Addr × Obj)) (I C D : Addr) : Prop
  | mk (Rl : Nat → List Value → Heap → Prop) (stab : ∀ i ys h h', Rl i ys h → Ext [C, D, I] h h' → Rl i ys h') (i0 : Rl 0 [] s₁.heap)
    (turn : ∀ i v ys s₃ m₃ E', i < n → P i v → Rl i ys s₃.heap → Mv s₁ s₃ → Sub s₁.heap s₃.heap → s₃.heap.Ns C m₃ → m₃ x0 = some v → (s₃.heap.get? I).isSome = true → (s₃.heap.get? D).isSome = true → Turn2 prog w A env elt iter1 x0 x1 ifs0 ifs1 scope cl Rl i ys s₁ v C D E' s₃)
    (fin : ∀ h' h'' tk ys e, Rl n ys h' → Sub s₁.heap h' → Ext [env.locals, C] h' h'' → Fr g env.locals h'' (fun z => if z = y then some (.ref D) else m z) → News g env.locals h'' ((D, { cls := .type "list", data := .seq ys.toArray e }) :: news) → Q .next { s₁ with heap := h'', toks := tk })
inductive C2A (xv : Value) (s₁ : Shared) : Prop
  | mk (n : Nat) (P : Nat → Value → Prop) (fp : List Addr) (m : Str → Option Value) (g : Heap) (news : List (Addr × Obj)) (src : Src prog w s₁ xv n P fp) (hfp : ∀ b ∈ fp, b < s₁.heap.objs.size) (F : Fr g env.locals s₁.heap m) (N : News g env.locals s₁.heap news)
    (hall : ∀ I C D, s₁.heap.get? I = none → s₁.heap.get? C = none → s₁.heap.get? D = none → C ≠ D → I ≠ D → I ≠ C → s₁.heap.objs.size ≤ C → C2AI prog w A env elt iter1 x0 x1 y ifs0 ifs1 scope cl Q n P s₁ m g news I C D)
end
section
variable {prog : Program} {w : World} {A : Around} {E : Value → Shared → Prop} {s : Shared}
/-- an assigned comprehension of two clauses, by an invariant over the heap -/
theorem comp2A {env : Env} {elt iter0 iter1 : PySem.Expr} {x0 x1 y : Str} {px0 px1 py : Pos} {ifs0 ifs1 : List PySem.Expr} {scope : Scope} {cl : List (Str × Addr)} {pos spos : Pos} {Q : Flow → Shared → Prop}
    (hA : A.handled = none) (hsw : swapsWith (.ListComp elt [⟨.Name x0 px0, iter0, ifs0, 0⟩, ⟨.Name x1 px1, iter1, ifs1, 0⟩] scope pos) (some (.Name y py)) spos.line env = pure true)
    (hclos : closureFor scope env = pure cl) (hcell : ∀ y ∈ scope.names, y.2 ≠ .cell) (hkind : scope.kind = .function)
    (hnames : ∀ y ∈ scope.names, y.2 = .local → scope.names.lookup y.1 = some .local) (hx0 : scope.names.lookup x0 = some .local) (hx1 : scope.names.lookup x1 = some .local) (hxx : x0 ≠ x1)
    (hy : env.kindOf y = some .local) (hp : (env.scope.kind == .class || (env.scope.kind == .module && env.locals != env.globals)) = false)
    (h : wpAny (model prog w) A (eval iter0 env) (fun xv s₁ => Halt (C2A prog w A env elt iter1 x0 x1 y ifs0 ifs1 scope cl Q xv s₁)) E s)
    (hs0 : ∀ x, foldedSetIterable iter0 env x = pure x := by intro _; rfl) (hs1 : ∀ C x, foldedSetIterable iter1 (compEnvC scope cl C env) x = pure x := by intro _ _; rfl) :
    wpAny (model prog w) A (exec (.Assign [.Name y py] (.ListComp elt [⟨.Name x0 px0, iter0, ifs0, 0⟩, ⟨.Name x1 px1, iter1, ifs1, 0⟩] scope pos) spos) env) Q E s := by
  rw [exec_Assign_Name_used _ _ _ _ hsw]
  refine wpAny_bind (wpAny_standAt (wpAny_bind ?_))
  show wpAny _ A (do let _ ← comprehension (.ListComp elt [⟨.Name x0 px0, iter0, ifs0, 0⟩, ⟨.Name x1 px1, iter1, ifs1, 0⟩] scope pos) scope env _ (newList []) false (eval iter0 env) (some (assign (.Name y py) env))) _ _ s
  refine wpAny_bind (wpAny_mono (comp2U (use := some (assign (.Name y py) env)) (Q := fun _ s' => Q .next s') hA hclos hcell hkind hnames hx0 hx1 hxx (wpAny_mono h (fun xv s₁ h₁ => ?_) fun _ _ e => e) hs0 hs1) (fun _ s' hq => wpAny_pure (wpAny_pure hq)) fun _ _ e => e)
  obtain ⟨n, P, fp, m, g, news, src, hfp, F, N, hall⟩ := h₁
  refine Halt.out ⟨n, P, fp, src, hfp, fun I C D gI gC gD hCD hID hIC hC => ?_⟩
  obtain ⟨Rl, stab, h0, turn, fin⟩ := hall I C D gI gC gD hCD hID hIC hC
  refine ⟨Rl, stab, h0, turn, fun h' tk ys m' hR hpl hnC hsub => ?_⟩
  obtain ⟨e, he⟩ := id hpl
  obtain ⟨oL, hoL⟩ := ns_some F.ns
  have hLC : env.locals ≠ C := ne_of_get hoL gC
  have hLD : env.locals ≠ D := ne_of_get hoL gD
  show wpAny _ A (assign (.Name y py) env (.ref D)) _ _ _
  refine wpAny_assign_Name (wpAny_storeName_local hy (F.ns.at' (h' := h') fun o e => hsub.get e) (fun h₂ hn₂ hs₂ => ?_) hp)
  refine ⟨m', hnC.sameBut hs₂ (Ne.symm hLC), fun h₃ hs₃ => ?_⟩
  have hn₃ := hn₂.sameBut hs₃ hLC
  have hx : Ext [env.locals] s₁.heap h₃ := ⟨fun b o nb e => hs₃.extBut b o (ne_of_get e gC) (hs₂.extBut b o (by simpa using nb) (hsub.get e))⟩
  obtain ⟨F', N'⟩ := frame_put F N hx gD (hs₃.extBut _ _ (Ne.symm hCD) (hs₂.extBut _ _ (Ne.symm hLD) he)) hn₃
  exact fin h' h₃ _ ys e hR hsub ⟨fun b o nb e => by
    simp only [List.mem_cons, List.not_mem_nil, or_false, not_or] at nb
    exact hs₃.extBut b o nb.2 (hs₂.extBut b o nb.1 e)⟩ F' N'
end
end Mine
end

section
open PySem PySem.W PyProof.Rows PySem.Calls
set_option Elab.async false
set_option linter.unusedVariables false
set_option maxRecDepth 100000
namespace Mine
section
variable {prog : Program} {w : World} {A : Around} {E : Value → Shared → Prop} {env : Env} {s : Shared}
theorem owned_list {elts : List PySem.Expr} {kk : Nat} {tp : Pos} {I l : Addr} {i : Nat} {v : Value} {Q : Unit → Shared → Prop} (hit : s.heap.IsListIter I l i) (h : Q () s) : wpAny (model prog w) A (letOwnedTupleGo (.Tuple elts kk tp) (.ref I) v) Q E s := by
  obtain ⟨o, ho, hc, hd⟩ := hit
  unfold letOwnedTupleGo
  cases v with
  | ref a =>
    refine wpAny_bind (wpAny_load ho ?_)
    rw [hc, hd]
    dsimp only
    rw [if_neg (by
      rw [show (["enumerate", "zip", "dict_itemiterator", "dict_reverseitemiterator", "odict_iterator", "itertools.zip_longest", "itertools.pairwise"] : List String).contains "list_iterator" = false by decide]
      simp)]
    exact wpAny_pure h
  | _ => exact wpAny_pure h
/-- what a comprehension over a list of pairs must bear -/
inductive CPS (prog : Program) (w : World) (A : Around) (env : Env) (elt : PySem.Expr) (xa xb : Str) (ifs : List PySem.Expr) (scope : Scope) (cl : List (Str × Addr)) (Q : Value → Shared → Prop) (Rl : Nat → List Value → Prop) (xv : Value) (s₁ : Shared) : Prop
  | mk (l : Addr) (items : Array Value) (hxv : xv = .ref l) (hl : s₁.heap.IsList l items) (hz : items.size ≤ sizeLine) (htup : ∀ (i : Nat) v, items[i]? = some v → ∃ T x y, v = Value.ref T ∧ s₁.heap.IsTuple T #[x, y])
    (turn : ∀ (i : Nat) T x y ys s₃ C m₃ E', items[i]? = some (.ref T) → s₁.heap.IsTuple T #[x, y] → Rl i ys → Mv s₁ s₃ → Sub s₁.heap s₃.heap → s₃.heap.Ns C m₃ → m₃ xa = some x → m₃ xb = some y → ys.length ≤ i → s₁.heap.objs.size ≤ C → TurnC prog w A elt ifs (compEnvC scope cl C env) C [] E' (fun i ys _ => Rl i ys) i ys s₃)
    (fin : ∀ D h' tk ys e, Rl items.size ys → ys.length ≤ items.size → s₁.heap.get? D = none → h'.get? D = some { cls := .type "list", data := .seq ys.toArray e } → Sub s₁.heap h' → Q (.ref D) { s₁ with heap := h', toks := tk })
/-- a comprehension over a list of pairs that changes nothing -/
theorem comp1PS {elt iter : PySem.Expr} {xa xb : Str} {pa pb tp : Pos} {kk : Nat} {ifs : List PySem.Expr} {scope : Scope} {cl : List (Str × Addr)} {pos : Pos} {Q : Value → Shared → Prop} (Rl : Nat → List Value → Prop)
    (hA : A.handled = none) (hclos : closureFor scope env = pure cl) (hcell : ∀ y ∈ scope.names, y.2 ≠ .cell) (hkind : scope.kind = .function)
    (hnames : ∀ y ∈ scope.names, y.2 = .local → scope.names.lookup y.1 = some .local) (hxa : scope.names.lookup xa = some .local) (hxb : scope.names.lookup xb = some .local) (hab : xa ≠ xb) (h0 : Rl 0 [])
    (h : wpAny (model prog w) A (eval iter env) (fun xv s₁ => Halt (CPS prog w A env elt xa xb ifs scope cl Q Rl xv s₁)) E s)
    (hs : ∀ x, foldedSetIterable iter env x = pure x := by intro _; rfl) :
    wpAny (model prog w) A (eval (.ListComp elt [⟨.Tuple [.Name xa pa, .Name xb pb] kk tp, iter, ifs, 0⟩] scope pos) env) Q E s := by
  rw [eval_ListComp]
  refine comp1U (use := none) hclos hcell hkind hnames (wpAny_mono h (fun xv s₁ h₁ => ?_) fun _ _ e => e) hs
  obtain ⟨l, items, rfl, hl, hz, htup, turn, fin⟩ := h₁
  obtain ⟨ol, hol, hol'⟩ := id hl
  refine wpAny_pyIter_list hl ?_
  have hI : s₁.heap.get? s₁.heap.objs.size = none := get_ge (Nat.le_refl _)
  generalize hH1 : s₁.heap.push { cls := .type "list_iterator", data := .fields #[.ref l, .int 0 0] } = H1
  have hsz' : H1.objs.size = s₁.heap.objs.size + 1 := by rw [← hH1]; exact Heap.size_push ..
  have s1H : Sub s₁.heap H1 := hH1 ▸ sub_push _ _
  refine ⟨s₁.heap.objs.size, _, _, items.size, _, _, [], rfl, Walks.list hA _ l (Nat.ne_of_lt (Heap.lt_size hol)) items, hz, ⟨⟨_, by rw [← hH1]; exact Heap.get?_push_size _ rfl, rfl, rfl⟩, hl.at fun o e => s1H.get e⟩, ?_, fun b hb => absurd hb List.not_mem_nil, ?_⟩
  · intro b hb
    show b < H1.objs.size
    rw [hsz']
    rcases List.mem_cons.mp hb with rfl | hb
    · exact Nat.lt_succ_self _
    · rw [List.mem_singleton.mp hb]; exact Nat.lt_succ_of_lt (Heap.lt_size hol)
  · intro C D hC hD hCD hDC'
    have hC' : H1.objs.size ≤ C := hC
    have hD' : H1.objs.size ≤ D := hD
    rw [hsz'] at hC' hD'
    have hCge := Nat.le_trans (Nat.le_succ _) hC'
    have gC : s₁.heap.get? C = none := get_ge hCge
    have gD : s₁.heap.get? D = none := get_ge (Nat.le_trans (Nat.le_succ _) hD')
    refine ⟨fun i ys h => Rl i ys ∧ Sub s₁.heap h, fun i ys h h' hi e => ⟨hi.1, freshSub hI gC gD ((Sub.ext hi.2).trans e)⟩, ⟨h0, s1H⟩, ?_, ?_⟩
    · intro i v ys s₃ m₃ E' hi hP hInv hmv hn hlen hpl hst3
      obtain ⟨T, x, y, rfl, hT⟩ := htup i v hP
      have hmv' := Mv.trans (Mv.mk s₁ _ _) hmv
      refine owned_list hst3.1 ?_
      have hT3 : s₃.heap.IsTuple T #[x, y] := by
        obtain ⟨o, ho, r⟩ := hT
        exact ⟨o, hInv.2.get ho, r⟩
      refine kcp_assign (env := compEnvC scope cl C env) hA hT3 (lookup_relabel_local hxa) (lookup_relabel_local hxb) (by simp [compEnvC, relabel, hkind]) hn fun h₄ tk₄ hn₄ hs₄ => ?_
      have xC : Low C [] s₃.heap h₄ := fun b o hb _ e => hs₄ b o (show b ≠ C from Nat.ne_of_lt hb) e
      have x3 := lowSub hCge hInv.2 xC
      exact ⟨⟨_, _, rfl⟩, xC, (turn i T x y ys _ C _ E' hP hT hInv.1 (Mv.trans hmv' ⟨_, _, rfl⟩) x3 hn₄ (by simp [hab]) (by simp) hlen hCge).keep hCge x3⟩
    · intro h' tk ys m' hI' hlen hpl hnC
      obtain ⟨e, he⟩ := id hpl
      exact ⟨m', hnC, fun h'' hs'' => fin D h'' _ ys e hI'.1 hlen gD (hs''.extBut _ _ (Ne.symm hCD) he) ⟨fun b o _ e => hs''.extBut b o (ne_of_get e gC) (hI'.2.get e)⟩⟩
end
end Mine
end

section
open PySem PySem.W PyProof.Rows PySem.Calls PySem.Spec
set_option Elab.async false
set_option linter.unusedVariables false
set_option maxRecDepth 100000
namespace Mine
theorem eqvAll_strs : ∀ xs : List Str, PyData.eqvAll (xs.map PyData.str) (xs.map PyData.str) = true
  | [] => by simp [PyData.eqvAll]
  | x :: r => by simp [PyData.eqvAll, PyData.eqv, eqvAll_strs r]
theorem canLay_strs : ∀ {xs : List Str}, (∀ x ∈ xs, PyData.canLay0 (.str x) = true) → PyData.canLayAll0 (xs.map PyData.str) = true
  | [], _ => rfl
  | x :: r, h => by
    have h1 := h x List.mem_cons_self
    have h2 := canLay_strs (xs := r) fun y hy => h y (List.mem_cons_of_mem _ hy)
    simp only [List.map_cons, PyData.canLayAll0, h1, h2, Bool.and_self]
theorem depth_strs : ∀ xs : List Str, PyData.depthAll (xs.map PyData.str) = 0
  | [] => rfl
  | x :: r => by simp [PyData.depthAll, PyData.depth, depth_strs r]
section
variable {prog : Program} {w : World} {A : Around} {E : Value → Shared → Prop} {s : Shared}
theorem ne_strs {a b : Addr} {xs ys : List Value} {ns : List Str} {Q : Value → Shared → Prop} (ha : s.heap.IsList a xs.toArray) (hb : s.heap.IsList b ys.toArray) (hi : StrsAre xs ns) (hj : StrsAre ys ns) (hok : ∀ x ∈ ns, PyData.canLay0 (.str x) = true) (hu : A.units + 64 < cLine) (h : Q (.bool false) s) :
    wpAny (model prog w) A (compareOp .NotEq (.ref a) (.ref b)) Q E s := by
  have hs : SeqAt.shaped (.list (ns.map PyData.str)) = true := by simp [SeqAt.shaped, PyData.canLay0, canLay_strs hok, PyData.depth, depth_strs]
  refine ne_dataH (reads_newData ha hi.carried) (reads_newData hb hj.carried) hs hs hu ?_
  simpa only [PyData.eqv, eqvAll_strs, Bool.not_true] using h
def rowD (r : List Int × Str) : PyData := .tuple [.list (r.1.map PyData.int), .str r.2]
theorem eqvAll_rows : ∀ rows : List (List Int × Str), PyData.eqvAll (rows.map rowD) (rows.map rowD) = true
  | [] => by simp [PyData.eqvAll]
  | x :: r => by simp [rowD, PyData.eqvAll, PyData.eqv, ked_eqvAll]; exact eqvAll_rows r
theorem canLay_rows : ∀ {rows : List (List Int × Str)}, (∀ r ∈ rows, PyData.canLay0 (.str r.2) = true) → PyData.canLayAll0 (rows.map rowD) = true
  | [], _ => rfl
  | x :: r, h => by
    have h1 := h x List.mem_cons_self
    have h2 := canLay_rows (rows := r) fun y hy => h y (List.mem_cons_of_mem _ hy)
    have h3 : PyData.canLay0 (rowD x) = true := by simp only [rowD, PyData.canLay0, PyData.canLayAll0, ke_canLayAll0, Bool.true_and, Bool.and_true]; exact h1
    simp only [List.map_cons, PyData.canLayAll0, h3, h2, Bool.and_self]
theorem depth_rows : ∀ rows : List (List Int × Str), PyData.depthAll (rows.map rowD) ≤ 3
  | [] => by simp [PyData.depthAll]
  | x :: r => by
    have := depth_rows r
    simp only [List.map_cons, PyData.depthAll, rowD, PyData.depth, ke_depthAll]
    simp; omega
theorem reads_rows {h : Heap} {news : List (Addr × Obj)} {vs : List Value} {rows : List (List Int × Str)} (hr : RowsN news vs rows) (hm : ∀ p ∈ news, h.get? p.1 = some p.2) : ∃ as, ReadsAll h vs (rows.map rowD) as := by
  unfold RowsN at hr
  induction hr with
  | nil => exact ⟨_, .nil⟩
  | cons h1 _ ih =>
    obtain ⟨a, b, ws, e, t, rfl, m1, m2, hi⟩ := h1
    obtain ⟨as, k⟩ := ih
    refine ⟨_, ReadsAll.cons (reads_tuple_at (hm _ m1) rfl rfl (ReadsAll.cons (reads_list_at (hm _ m2) rfl rfl ((ke_carried hi).reads h)) (ReadsAll.cons (.str _ _) .nil))) k⟩
theorem eq_rows {a b : Addr} {xs ys : List Value} {n1 n2 : Nat} {news news' : List (Addr × Obj)} {rows : List (List Int × Str)} {Q : Value → Shared → Prop} (ha : s.heap.get? a = some { cls := .type "list", data := .seq xs.toArray n1 }) (hb : s.heap.get? b = some { cls := .type "list", data := .seq ys.toArray n2 })
    (hr : RowsN news xs rows) (hr' : RowsN news' ys rows) (hm : ∀ p ∈ news, s.heap.get? p.1 = some p.2) (hm' : ∀ p ∈ news', s.heap.get? p.1 = some p.2) (hok : ∀ r ∈ rows, PyData.canLay0 (.str r.2) = true) (hu : A.units + 64 < cLine) (h : Q (.bool true) s) :
    wpAny (model prog w) A (compareOp .Eq (.ref a) (.ref b)) Q E s := by
  obtain ⟨as, r1⟩ := reads_rows hr hm
  obtain ⟨bs, r2⟩ := reads_rows hr' hm'
  have hs : SeqAt.shaped (.list (rows.map rowD)) = true := by
    have := depth_rows rows
    simp [SeqAt.shaped, PyData.canLay0, canLay_rows hok, PyData.depth]; omega
  refine eq_dataH (reads_list_at ha rfl rfl (by simpa using r1)) (reads_list_at hb rfl rfl (by simpa using r2)) hs hs hu ?_
  simpa only [PyData.eqv, eqvAll_rows] using h
end
end Mine
namespace Mine
section
variable {prog : Program} {w : World} {A : Around} {E : Value → Shared → Prop} {s : Shared}
theorem sum_heap {l : Addr} {vs : List Value} {ns : List Int} {Q : Value → Shared → Prop} (hh : A.handled = none) (hl : s.heap.IsList l vs.toArray) (hi : IntsAre vs ns)
    (h : ∀ h' tk t', Sub s.heap h' → Q (.int ns.sum t') { s with heap := h', toks := tk }) : wpAny (model prog w) A (call (.builtin "sum") [.ref l]) Q E s := by
  obtain ⟨xs, hx⟩ := hi.allInts.items
  have hl' : s.heap.IsList l (intItems xs) := hx ▸ hl
  refine sum_intListG hh hl' fun h' tk t' hk => ?_
  have e1 : ns = xs.toList.map (·.1) := by
    rw [← nums_intItems, ← hx]
    exact (show numsOf vs.toArray.toList = ns from hi.numsOf).symm
  have e2 : preSum (numAt xs) xs.size = ns.sum := by
    rw [preSum_eq, List.take_of_length_le (by simp), e1]
  rw [e2]
  exact h h' tk t' (Sub.of hk)
end
end Mine
namespace Mine
theorem paired_app {α β : Type} {F : α → β → Prop} {a a' : List α} {b b' : List β} (h : Paired F a b) (h' : Paired F a' b') : Paired F (a ++ a') (b ++ b') := by
  induction h with
  | nil => exact h'
  | cons x _ ih => exact .cons x ih
theorem paired_rev {α β : Type} {F : α → β → Prop} {a : List α} {b : List β} (h : Paired F a b) : Paired F a.reverse b.reverse := by
  induction h with
  | nil => exact .nil
  | cons x _ ih =>
    rw [List.reverse_cons, List.reverse_cons]
    exact Paired.snoc ih x
end Mine
namespace Mine
/-- rows whose objects lie outside X -/
def RowsH (h0 : Heap) (L0 : Addr) (X : List Addr) (h : Heap) (ys : List Value) (rows : List (List Int × Str)) : Prop :=
  ∃ inner : List (Addr × Obj), (∀ p ∈ inner, h.get? p.1 = some p.2 ∧ p.1 ∉ X ∧ h0.get? p.1 = none ∧ p.1 ≠ L0) ∧ RowsN inner ys rows
theorem RowsH.move {h0 h h' : Heap} {L0 : Addr} {X W : List Addr} {ys : List Value} {rows : List (List Int × Str)} (r : RowsH h0 L0 X h ys rows) (x : Ext W h h') (hw : ∀ a ∈ W, a ∈ X) : RowsH h0 L0 X h' ys rows := by
  obtain ⟨inner, hi, hr⟩ := r
  exact ⟨inner, fun p hp => ⟨x.keep _ _ (fun q => (hi p hp).2.1 (hw _ q)) (hi p hp).1, (hi p hp).2⟩, hr⟩
theorem rowsN_mono {a b : List (Addr × Obj)} {vs : List Value} {rows : List (List Int × Str)} (h : RowsN a vs rows) (hs : ∀ p ∈ a, p ∈ b) : RowsN b vs rows :=
  h.mono fun v r ⟨x, y, ws, e, t, h1, h2, h3, h4⟩ => ⟨x, y, ws, e, t, h1, hs _ h2, hs _ h3, h4⟩
end Mine
namespace Mine
theorem ne_of_get' {h : Heap} {a b : Addr} {o o' : Obj} (e : h.get? a = some o) (e' : h.get? b = some o') (hn : o ≠ o') : b ≠ a := by rintro rfl; rw [e] at e'; exact hn (Option.some.inj e')
end Mine
end

section
open PySem PySem.W PyProof.Rows PySem.Calls PySem.Spec
set_option Elab.async false
set_option linter.unusedVariables false
set_option maxRecDepth 100000
namespace Mine
theorem map_getD_range {α : Type} (l : List α) (d : α) : (List.range l.length).map (fun i => l.getD i d) = l := by
  refine List.ext_getElem? fun i => ?_
  by_cases hi : i < l.length
  · simp [hi]
  · rw [List.getElem?_eq_none (by simp; omega), List.getElem?_eq_none (by omega)]
theorem paired_pick {α β : Type} {F : α → β → Prop} {l₁ : List α} {l₂ : List β} {d : α} {d' : β} (h : Paired F l₁ l₂) : ∀ {p : List Nat}, (∀ i ∈ p, i < l₁.length) → Paired F (p.map fun i => l₁.getD i d) (p.map fun i => l₂.getD i d')
  | [], _ => .nil
  | i :: p, hp => by
    have hi := hp i List.mem_cons_self
    obtain ⟨b, hb, hF⟩ := paired_at2 h i (List.getElem?_eq_getElem hi)
    refine .cons ?_ (paired_pick h fun j hj => hp j (List.mem_cons_of_mem _ hj))
    show F (l₁.getD i d) (l₂.getD i d')
    rw [getD_some (List.getElem?_eq_getElem hi), getD_some hb]
    exact hF
theorem rowq_list {n : Nat} {p : Array Nat} (h : Rowq n p) : p.toList.Perm (List.range n) := by
  have := h.perm
  exact Array.perm_iff_toList_perm.mp this |>.trans (by simp)
theorem rowq_mem {n : Nat} {p : Array Nat} (h : Rowq n p) : ∀ i ∈ p.toList, i < n := fun i hi => List.mem_range.mp ((rowq_list h).mem_iff.mp hi)
theorem pick_perm {α : Type} {l : List α} {d : α} {p : Array Nat} (h : Rowq l.length p) : (p.toList.map fun i => l.getD i d).Perm l := by
  have := (rowq_list h).map fun i => l.getD i d
  rwa [map_getD_range] at this
theorem pick_pw {α : Type} {l : List α} {d : α} {lt : α → α → Bool} {n : Nat} {p : Array Nat} (h : Rowq n p) (ho : ∀ i j, i ≤ j → j < n → lt (l.getD (p.getD j 0) d) (l.getD (p.getD i 0) d) = false) : (p.toList.map fun i => l.getD i d).Pairwise fun a b => lt b a = false := by
  refine List.pairwise_iff_getElem.mpr fun i j hi hj hij => ?_
  have hs : p.size = n := h.size
  simp only [List.length_map, Array.length_toList] at hi hj
  have := ho i j (Nat.le_of_lt hij) (hs ▸ hj)
  simpa [Array.getD, hi, hj] using this
section
variable {prog : Program} {w : World} {A : Around} {E : Value → Shared → Prop} {s : Shared}
theorem sorted_keysG {g : Heap} {L l : Addr} {m : Str → Option Value} {news inner : List (Addr × Obj)} {vs : List Value} {keys : List (List Int)} {Q : Value → Shared → Prop} (F : Fr g L s.heap m) (N : News g L s.heap news) (hl : s.heap.IsList l vs.toArray) (h64 : keys.length < 64) (hu : A.units + 10 < cLine)
    (hk : KeysIn inner vs keys) (hin : ∀ p ∈ inner, p ∈ news)
    (h : ∀ D e h' vs' ks', ks'.Perm keys → ks'.Pairwise (fun a b => ltL b a = false) → KeysIn inner vs' ks' → Fr g L h' m → News g L h' ((D, { cls := .type "list", data := .seq (List.toArray vs') e }) :: news) → (∀ q ∈ news, q.1 < D) → Q (.ref D) { s with heap := h' }) :
    wpAny (model prog w) A (call (.builtin "sorted") [.ref l]) Q E s := by
  have hlen := Paired.length hk
  by_cases h2 : 2 ≤ vs.length
  · refine sorted_lists F N hl h2 (by omega) hu (hk.mono fun v k ⟨a, ws, e, q1, q2, q3⟩ => ⟨a, ws, e, q1, hin _ q2, q3⟩) fun D e h' p hp ho F' N' hD => ?_
    exact h D e h' _ (p.toList.map fun i => keys.getD i []) (pick_perm (hlen ▸ hp)) (pick_pw hp ho) (paired_pick hk (rowq_mem hp)) F' N' hD
  · refine sorted_short F N hl (by omega) fun D e h' F' N' hD => ?_
    refine h D e h' vs keys (List.Perm.refl _) ?_ hk F' N' hD
    match keys, hlen with
    | [], _ => exact .nil
    | [_], _ => exact List.pairwise_singleton _ _
    | _ :: _ :: _, e => simp at e; omega
theorem sorted_rowsG {g : Heap} {L l : Addr} {m : Str → Option Value} {news inner : List (Addr × Obj)} {vs : List Value} {rows : List (List Int × Str)} {Q : Value → Shared → Prop} (F : Fr g L s.heap m) (N : News g L s.heap news) (hl : s.heap.IsList l vs.toArray) (h64 : rows.length < 64) (hu : A.units + 20 < cLine)
    (hk : RowsN inner vs rows) (hin : ∀ p ∈ inner, p ∈ news)
    (h : ∀ D e h' vs' ks', ks'.Perm rows → ks'.Pairwise (fun a b => ltR b a = false) → RowsN inner vs' ks' → Fr g L h' m → News g L h' ((D, { cls := .type "list", data := .seq (List.toArray vs') e }) :: news) → (∀ q ∈ news, q.1 < D) → Q (.ref D) { s with heap := h' }) :
    wpAny (model prog w) A (call (.builtin "sorted") [.ref l]) Q E s := by
  have hlen := Paired.length hk
  by_cases h2 : 2 ≤ vs.length
  · refine sorted_rows F N hl h2 (by omega) hu (rowsN_mono hk hin) fun D e h' p hp ho F' N' hD => ?_
    exact h D e h' _ (p.toList.map fun i => rows.getD i ([], Str.empty)) (pick_perm (hlen ▸ hp)) (pick_pw hp ho) (paired_pick hk (rowq_mem hp)) F' N' hD
  · refine sorted_short F N hl (by omega) fun D e h' F' N' hD => ?_
    refine h D e h' vs rows (List.Perm.refl _) ?_ hk F' N' hD
    match rows, hlen with
    | [], _ => exact .nil
    | [_], _ => exact List.pairwise_singleton _ _
    | _ :: _ :: _, e => simp at e; omega
end
end Mine
end

section
open PySem PySem.W PyProof.Rows PySem.Calls PySem.Spec
set_option Elab.async false
set_option linter.unusedVariables false
set_option maxRecDepth 100000
namespace Mine
section
variable {prog : Program} {w : World} {A : Around} {E : Value → Shared → Prop} {s : Shared}
theorem item_at {value slice : PySem.Expr} {l : Addr} {vs : List Value} {k : Int} {u : Tok} {v : Value} {Q : Value → Shared → Prop}
    (hl : s.heap.IsList l vs.toArray) (h0 : 0 ≤ k) (hhi : k < 2 ^ 63) (hx : vs[k.toNat]? = some v) (h : Q v s)
    (hs : subscripted slice false (.ref l) (.int k u) = operate [.ref l, .int k u] (getItem (.ref l) (.int k u)) := by with_unfolding_all rfl) :
    wpAny (model prog w) A (subscriptTail value slice (.ref l) (.int k u)) Q E s :=
  tail_any hl.typeIs slot_list_getitem.lookup (wpAny_getItem_list hl h0 hhi (by simpa using hx) h) hs
end
end Mine
end

section
open PySem PySem.W PyProof.Rows
set_option Elab.async false
set_option maxRecDepth 100000
set_option maxHeartbeats 8000000
namespace Mine
/-- a place in a text -/
def nth : List Stmt → Nat → Stmt
  | s :: _, 0 => s
  | _ :: r, n + 1 => nth r n
  | [], _ => .Pass ⟨0, 0, 0, 0⟩
def fArgs : Stmt → Arguments
  | .FunctionDef _ a _ _ _ _ _ _ _ _ => a
  | _ => ⟨[], [], none, [], [], none, []⟩
def fBody : Stmt → List Stmt
  | .FunctionDef _ _ b _ _ _ _ _ _ _ => b
  | _ => []
def fScope : Stmt → Scope
  | .FunctionDef _ _ _ _ _ _ s _ _ _ => s
  | _ => { kind := .function, names := [], isGenerator := false, isCoroutine := false }
def fPos : Stmt → Pos
  | .FunctionDef _ _ _ _ _ _ _ _ _ p => p
  | _ => ⟨0, 0, 0, 0⟩
def cBody : Stmt → List Stmt
  | .ClassDef _ _ _ b _ _ _ _ _ _ _ => b
  | _ => []
noncomputable def tops : List Stmt := Challenge.rw_nb0223_01.row.toRowW.prog.main.body
/-- what the top has made, as far as the law comes to it; the texts of the defs are picked out of the given program -/
noncomputable def hd1.heap_39 (P : Params) : Frag :=
  ((nat_lit 2), (Obj.mk Value.none none (Data.dict #[(DictEntry.mk (PyData.keyHash P (Str.ofString "\x69mport.loaded._sre")) (Value.str (Str.ofString "\x69mport.loaded._sre") 183) (Value.bool true)), (DictEntry.mk (PyData.keyHash P (Str.ofString "class._frozen_\x69mportlib.BuiltinImporter")) (Value.str (Str.ofString "class._frozen_\x69mportlib.BuiltinImporter") 185) (Value.ref 14)), (DictEntry.mk (PyData.keyHash P (Str.ofString "watched.\x69mport")) (Value.str (Str.ofString "watched.\x69mport") 206) (Value.ref 18)), (DictEntry.mk (PyData.keyHash P (Str.ofString "class._frozen_\x69mportlib.ModuleSpec")) (Value.str (Str.ofString "class._frozen_\x69mportlib.ModuleSpec") 216) (Value.ref 22)), (DictEntry.mk (PyData.keyHash P (Str.ofString "sys.modules.booked-epoch")) (Value.str (Str.ofString "sys.modules.booked-epoch") 245) (Value.int 3 0)), (DictEntry.mk (PyData.keyHash P (Str.ofString "\x69mport.later-laid._sre")) (Value.str (Str.ofString "\x69mport.later-laid._sre") 270) (Value.bool true)), (DictEntry.mk (PyData.keyHash P (Str.ofString "watched.library")) (Value.str (Str.ofString "watched.library") 272) (Value.ref 27)), (DictEntry.mk (PyData.keyHash P (Str.ofString "watched.library-objects")) (Value.str (Str.ofString "watched.library-objects") 0) (Value.str (Str.ofString "\x0c") 0)), (DictEntry.mk (PyData.keyHash P (Str.ofString "watched.library-deep._sre")) (Value.str (Str.ofString "watched.library-deep._sre") 273) (Value.str (Str.ofString "\x04\x00\x00\x0b\x04\x00\x00\x0b\x04\x00\x00\x03\x04\x00\x00\x0b\x08\x04dict\x02") 0))] 9) #[])) ::
  ((nat_lit 3), (Obj.mk (Value.type "dict") none (Data.dict #[(DictEntry.mk (PyData.keyHash P (Str.ofString "__name__")) (Value.str (Str.ofString "__name__") 165) (Value.str (Str.ofString "law_nb0223_01") 600)), (DictEntry.mk (PyData.keyHash P (Str.ofString "__doc__")) (Value.str (Str.ofString "__doc__") 166) Value.none), (DictEntry.mk (PyData.keyHash P (Str.ofString "__package__")) (Value.str (Str.ofString "__package__") 167) Value.none), (DictEntry.mk (PyData.keyHash P (Str.ofString "__loader__")) (Value.str (Str.ofString "__loader__") 168) (Value.builtin "__main__.__loader__#opaque")), (DictEntry.mk (PyData.keyHash P (Str.ofString "__spec__")) (Value.str (Str.ofString "__spec__") 169) Value.none), (DictEntry.mk (PyData.keyHash P (Str.ofString "__annotations__")) (Value.str (Str.ofString "__annotations__") 170) (Value.ref 6)), (DictEntry.mk (PyData.keyHash P (Str.ofString "__builtins__")) (Value.str (Str.ofString "__builtins__") 171) (Value.ref 4)), (DictEntry.mk (PyData.keyHash P (Str.ofString "__file__")) (Value.str (Str.ofString "__file__") 173) (Value.str (Str.ofString "/claim/cut.py") 172)), (DictEntry.mk (PyData.keyHash P (Str.ofString "__cached__")) (Value.str (Str.ofString "__cached__") 174) Value.none), (DictEntry.mk (PyData.keyHash P (Str.ofString "_sre")) (Value.str (Str.ofString "_sre") 275) (Value.ref 12)), (DictEntry.mk (PyData.keyHash P (Str.ofString "_wall")) (Value.str (Str.ofString "_wall") 288) (Value.ref 38)), (DictEntry.mk (PyData.keyHash P (Str.ofString "tspecials")) (Value.str (Str.ofString "tspecials") 324) (Value.ref 43)), (DictEntry.mk (PyData.keyHash P (Str.ofString "_name_disallowed_re")) (Value.str (Str.ofString "_name_disallowed_re") 350) (Value.ref 48)), (DictEntry.mk (PyData.keyHash P (Str.ofString "_value_disallowed_re")) (Value.str (Str.ofString "_value_disallowed_re") 384) (Value.ref 53)), (DictEntry.mk (PyData.keyHash P (Str.ofString "_formatparam")) (Value.str (Str.ofString "_formatparam") 394) (Value.ref 61)), (DictEntry.mk (PyData.keyHash P (Str.ofString "Headers")) (Value.str (Str.ofString "Headers") 551) (Value.ref 182)), (DictEntry.mk (PyData.keyHash P (Str.ofString "read_uint1")) (Value.str (Str.ofString "read_uint1") 561) (Value.ref 193)), (DictEntry.mk (PyData.keyHash P (Str.ofString "read_string1")) (Value.str (Str.ofString "read_string1") 570) (Value.ref 200)), (DictEntry.mk (PyData.keyHash P (Str.ofString "_Example")) (Value.str (Str.ofString "_Example") 599) (Value.ref 217)), (DictEntry.mk (PyData.keyHash P (Str.ofString "_law_take")) (Value.str (Str.ofString "_law_take") 610) (Value.ref 228)), (DictEntry.mk (PyData.keyHash P (Str.ofString "_law_stream")) (Value.str (Str.ofString "_law_stream") 618) (Value.ref 235)), (DictEntry.mk (PyData.keyHash P (Str.ofString "_law_item")) (Value.str (Str.ofString "_law_item") 624) (Value.ref 240)), (DictEntry.mk (PyData.keyHash P (Str.ofString "_law_names")) (Value.str (Str.ofString "_law_names") 633) (Value.ref 247)), (DictEntry.mk (PyData.keyHash P (Str.ofString "_law_bag")) (Value.str (Str.ofString "_law_bag") 639) (Value.ref 252)), (DictEntry.mk (PyData.keyHash P (Str.ofString "_law_places")) (Value.str (Str.ofString "_law_places") 645) (Value.ref 257)), (DictEntry.mk (PyData.keyHash P (Str.ofString "_law_rings")) (Value.str (Str.ofString "_law_rings") 658) (Value.ref 264)), (DictEntry.mk (PyData.keyHash P (Str.ofString "_law_laid")) (Value.str (Str.ofString "_law_laid") 664) (Value.ref 269)), (DictEntry.mk (PyData.keyHash P (Str.ofString "_law_rows")) (Value.str (Str.ofString "_law_rows") 670) (Value.ref 274)), (DictEntry.mk (PyData.keyHash P (Str.ofString "law")) (Value.str (Str.ofString "law") 676) (Value.ref 279))] 29) #[])) ::
  ((nat_lit 32), (Obj.mk (Value.type "tuple") none (Data.seq #[] 0) #[])) ::
  ((nat_lit 34), (Obj.mk (Value.type "tuple") none (Data.seq #[(Value.str (Str.ofString "k") 285)] 0) #[])) ::
  ((nat_lit 35), (Obj.mk (Value.type "tuple") none (Data.seq #[] 0) #[])) ::
  ((nat_lit 37), (Obj.mk (Value.type "code") none (Data.fields #[(Value.str (Str.ofString "_wall") 282), (Value.str (Str.ofString "_wall") 283), (Value.str (Str.ofString "/claim/cut.py") 284), (Value.int 2 0), (Value.int 1 0), (Value.int 0 0), (Value.int 0 0), (Value.int 3 0), (Value.ref 32), (Value.bool true), (Value.int 276 0), (Value.ref 33), Value.none, (Value.ref 34), (Value.ref 35), (Value.ref 36), (Value.int 286 0), (Value.int 2 0), (Value.str (Str.ofString "/claim/cut.py") 287)]) #[])) ::
  ((nat_lit 38), (Obj.mk (Value.type "function") none (Data.func (FuncData.mk (Str.ofString "_wall") (Str.ofString "_wall") (by refine (?pf1 : (x : Arguments) → x = fArgs (nth tops 1) → Arguments) ?px1 ?ph1; (case pf1 => exact fun x _ => x); (case ph1 => (conv => rhs; whnf))) (FuncBody.stmts (by refine (?pf2 : (x : (List Stmt)) → x = fBody (nth tops 1) → (List Stmt)) ?px2 ?ph2; (case pf2 => exact fun x _ => x); (case ph2 => (conv => rhs; whnf)))) (by refine (?pf3 : (x : Scope) → x = fScope (nth tops 1) → Scope) ?px3 ?ph3; (case pf3 => exact fun x _ => x); (case ph3 => (conv => rhs; whnf))) 3 [] Value.none Value.none Value.none (Value.str (Str.ofString "__main__") 164) none (Value.ref 37) Value.none 0)) #[])) ::
  ((nat_lit 42), (Obj.mk (Value.type "tuple") none (Data.seq #[(Value.int 14 0), (Value.int 14 0), (Value.int 4 0), (Value.int 1 0), (Value.int 1 0), (Value.int 9 0), (Value.int 0 0), (Value.int 4227896069 0), (Value.int 939524097 0), (Value.int 0 0), (Value.int 0 0), (Value.int 0 0), (Value.int 0 0), (Value.int 0 0), (Value.int 0 0), (Value.int 13 0), (Value.int 11 0), (Value.int 9 0), (Value.int 0 0), (Value.int 4227896069 0), (Value.int 939524097 0), (Value.int 0 0), (Value.int 0 0), (Value.int 0 0), (Value.int 0 0), (Value.int 0 0), (Value.int 0 0), (Value.int 1 0)] 0) #[])) ::
  ((nat_lit 43), (Obj.mk (Value.type "re.Pattern") none (Data.fields #[(Value.str (Str.ofString "[ \\(\\)<>@,;:\\\\\"/\\[\\]\\?=]") 292), (Value.int 32 323), (Value.int 0 0), Value.none, Value.none, (Value.ref 42), (Value.int 0 0)]) #[])) ::
  ((nat_lit 47), (Obj.mk (Value.type "tuple") none (Data.seq #[(Value.int 14 0), (Value.int 10 0), (Value.int 4 0), (Value.int 1 0), (Value.int 1 0), (Value.int 22 0), (Value.int 0 0), (Value.int 31 0), (Value.int 16 0), (Value.int 127 0), (Value.int 0 0), (Value.int 13 0), (Value.int 7 0), (Value.int 22 0), (Value.int 0 0), (Value.int 31 0), (Value.int 16 0), (Value.int 127 0), (Value.int 0 0), (Value.int 1 0)] 0) #[])) ::
  ((nat_lit 48), (Obj.mk (Value.type "re.Pattern") none (Data.fields #[(Value.str (Str.ofString "[\\x00-\\x1F\\x7F]") 326), (Value.int 32 349), (Value.int 0 0), Value.none, Value.none, (Value.ref 47), (Value.int 0 0)]) #[])) ::
  ((nat_lit 52), (Obj.mk (Value.type "tuple") none (Data.seq #[(Value.int 14 0), (Value.int 14 0), (Value.int 4 0), (Value.int 1 0), (Value.int 1 0), (Value.int 9 0), (Value.int 4294966783 0), (Value.int 0 0), (Value.int 0 0), (Value.int 2147483648 0), (Value.int 0 0), (Value.int 0 0), (Value.int 0 0), (Value.int 0 0), (Value.int 0 0), (Value.int 13 0), (Value.int 11 0), (Value.int 9 0), (Value.int 4294966783 0), (Value.int 0 0), (Value.int 0 0), (Value.int 2147483648 0), (Value.int 0 0), (Value.int 0 0), (Value.int 0 0), (Value.int 0 0), (Value.int 0 0), (Value.int 1 0)] 0) #[])) ::
  ((nat_lit 53), (Obj.mk (Value.type "re.Pattern") none (Data.fields #[(Value.str (Str.ofString "[\\x00-\\x08\\x0A-\\x1F\\x7F]") 352), (Value.int 32 383), (Value.int 0 0), Value.none, Value.none, (Value.ref 52), (Value.int 0 0)]) #[])) ::
  ((nat_lit 54), (Obj.mk (Value.type "tuple") none (Data.seq #[Value.none, (Value.int 1 385)] 0) #[])) ::
  ((nat_lit 55), (Obj.mk (Value.type "tuple") none (Data.seq #[] 0) #[])) ::
  ((nat_lit 57), (Obj.mk (Value.type "tuple") none (Data.seq #[(Value.str (Str.ofString "param") 389), (Value.str (Str.ofString "value") 390), (Value.str (Str.ofString "quote") 391)] 0) #[])) ::
  ((nat_lit 58), (Obj.mk (Value.type "tuple") none (Data.seq #[] 0) #[])) ::
  ((nat_lit 60), (Obj.mk (Value.type "code") none (Data.fields #[(Value.str (Str.ofString "_formatparam") 386), (Value.str (Str.ofString "_formatparam") 387), (Value.str (Str.ofString "/claim/cut.py") 388), (Value.int 9 0), (Value.int 3 0), (Value.int 0 0), (Value.int 0 0), (Value.int 3 0), (Value.ref 55), (Value.bool true), (Value.int 276 0), (Value.ref 56), Value.none, (Value.ref 57), (Value.ref 58), (Value.ref 59), (Value.int 392 0), (Value.int 9 0), (Value.str (Str.ofString "/claim/cut.py") 393)]) #[])) ::
  ((nat_lit 61), (Obj.mk (Value.type "function") none (Data.func (FuncData.mk (Str.ofString "_formatparam") (Str.ofString "_formatparam") (by refine (?pf4 : (x : Arguments) → x = fArgs (nth tops 6) → Arguments) ?px4 ?ph4; (case pf4 => exact fun x _ => x); (case ph4 => (conv => rhs; whnf))) (FuncBody.stmts (by refine (?pf5 : (x : (List Stmt)) → x = fBody (nth tops 6) → (List Stmt)) ?px5 ?ph5; (case pf5 => exact fun x _ => x); (case ph5 => (conv => rhs; whnf)))) (by refine (?pf6 : (x : Scope) → x = fScope (nth tops 6) → Scope) ?px6 ?ph6; (case pf6 => exact fun x _ => x); (case ph6 => (conv => rhs; whnf))) 3 [] (Value.ref 54) Value.none Value.none (Value.str (Str.ofString "cpy313.wsgiref.headers") 289) none (Value.ref 60) Value.none 0)) #[])) ::
  ((nat_lit 69), (Obj.mk (Value.type "tuple") none (Data.seq #[Value.none] 0) #[])) ::
  ((nat_lit 70), (Obj.mk (Value.type "tuple") none (Data.seq #[] 0) #[])) ::
  ((nat_lit 72), (Obj.mk (Value.type "tuple") none (Data.seq #[(Value.str (Str.ofString "self") 410), (Value.str (Str.ofString "headers") 411), (Value.str (Str.ofString "k") 412), (Value.str (Str.ofString "v") 413)] 0) #[])) ::
  ((nat_lit 73), (Obj.mk (Value.type "tuple") none (Data.seq #[] 0) #[])) ::
  ((nat_lit 75), (Obj.mk (Value.type "code") none (Data.fields #[(Value.str (Str.ofString "__init__") 407), (Value.str (Str.ofString "Headers.__init__") 408), (Value.str (Str.ofString "/claim/cut.py") 409), (Value.int 20 0), (Value.int 2 0), (Value.int 0 0), (Value.int 0 0), (Value.int 3 0), (Value.ref 70), (Value.bool true), (Value.int 276 0), (Value.ref 71), Value.none, (Value.ref 72), (Value.ref 73), (Value.ref 74), (Value.int 414 0), (Value.int 20 0), (Value.str (Str.ofString "/claim/cut.py") 415)]) #[])) ::
  ((nat_lit 76), (Obj.mk (Value.type "function") none (Data.func (FuncData.mk (Str.ofString "__init__") (Str.ofString "Headers.__init__") (by refine (?pf7 : (x : Arguments) → x = fArgs (nth (cBody (nth tops 7)) 0) → Arguments) ?px7 ?ph7; (case pf7 => exact fun x _ => x); (case ph7 => (conv => rhs; whnf))) (FuncBody.stmts (by refine (?pf8 : (x : (List Stmt)) → x = fBody (nth (cBody (nth tops 7)) 0) → (List Stmt)) ?px8 ?ph8; (case pf8 => exact fun x _ => x); (case ph8 => (conv => rhs; whnf)))) (by refine (?pf9 : (x : Scope) → x = fScope (nth (cBody (nth tops 7)) 0) → Scope) ?px9 ?ph9; (case pf9 => exact fun x _ => x); (case ph9 => (conv => rhs; whnf))) 3 [] (Value.ref 69) Value.none Value.none (Value.str (Str.ofString "cpy313.wsgiref.headers") 289) none (Value.ref 75) Value.none 0)) #[])) ::
  ((nat_lit 77), (Obj.mk (Value.type "tuple") none (Data.seq #[] 0) #[])) ::
  ((nat_lit 79), (Obj.mk (Value.type "tuple") none (Data.seq #[(Value.str (Str.ofString "self") 420), (Value.str (Str.ofString "value") 421), (Value.str (Str.ofString "name") 422), (Value.str (Str.ofString "regex") 423)] 0) #[])) ::
  ((nat_lit 80), (Obj.mk (Value.type "tuple") none (Data.seq #[] 0) #[])) ::
  ((nat_lit 82), (Obj.mk (Value.type "code") none (Data.fields #[(Value.str (Str.ofString "_convert_string_type") 417), (Value.str (Str.ofString "Headers._convert_string_type") 418), (Value.str (Str.ofString "/claim/cut.py") 419), (Value.int 30 0), (Value.int 2 0), (Value.int 0 0), (Value.int 1 0), (Value.int 3 0), (Value.ref 77), (Value.bool true), (Value.int 276 0), (Value.ref 78), Value.none, (Value.ref 79), (Value.ref 80), (Value.ref 81), (Value.int 424 0), (Value.int 30 0), (Value.str (Str.ofString "/claim/cut.py") 425)]) #[])) ::
  ((nat_lit 83), (Obj.mk (Value.type "function") none (Data.func (FuncData.mk (Str.ofString "_convert_string_type") (Str.ofString "Headers._convert_string_type") (by refine (?pf10 : (x : Arguments) → x = fArgs (nth (cBody (nth tops 7)) 1) → Arguments) ?px10 ?ph10; (case pf10 => exact fun x _ => x); (case ph10 => (conv => rhs; whnf))) (FuncBody.stmts (by refine (?pf11 : (x : (List Stmt)) → x = fBody (nth (cBody (nth tops 7)) 1) → (List Stmt)) ?px11 ?ph11; (case pf11 => exact fun x _ => x); (case ph11 => (conv => rhs; whnf)))) (by refine (?pf12 : (x : Scope) → x = fScope (nth (cBody (nth tops 7)) 1) → Scope) ?px12 ?ph12; (case pf12 => exact fun x _ => x); (case ph12 => (conv => rhs; whnf))) 3 [] Value.none Value.none Value.none (Value.str (Str.ofString "cpy313.wsgiref.headers") 289) none (Value.ref 82) Value.none 0)) #[])) ::
  ((nat_lit 84), (Obj.mk (Value.type "tuple") none (Data.seq #[] 0) #[])) ::
  ((nat_lit 86), (Obj.mk (Value.type "tuple") none (Data.seq #[(Value.str (Str.ofString "self") 430)] 0) #[])) ::
  ((nat_lit 87), (Obj.mk (Value.type "tuple") none (Data.seq #[] 0) #[])) ::
  ((nat_lit 89), (Obj.mk (Value.type "code") none (Data.fields #[(Value.str (Str.ofString "__len__") 427), (Value.str (Str.ofString "Headers.__len__") 428), (Value.str (Str.ofString "/claim/cut.py") 429), (Value.int 38 0), (Value.int 1 0), (Value.int 0 0), (Value.int 0 0), (Value.int 3 0), (Value.ref 84), (Value.bool true), (Value.int 276 0), (Value.ref 85), Value.none, (Value.ref 86), (Value.ref 87), (Value.ref 88), (Value.int 431 0), (Value.int 38 0), (Value.str (Str.ofString "/claim/cut.py") 432)]) #[])) ::
  ((nat_lit 90), (Obj.mk (Value.type "function") none (Data.func (FuncData.mk (Str.ofString "__len__") (Str.ofString "Headers.__len__") (by refine (?pf13 : (x : Arguments) → x = fArgs (nth (cBody (nth tops 7)) 2) → Arguments) ?px13 ?ph13; (case pf13 => exact fun x _ => x); (case ph13 => (conv => rhs; whnf))) (FuncBody.stmts (by refine (?pf14 : (x : (List Stmt)) → x = fBody (nth (cBody (nth tops 7)) 2) → (List Stmt)) ?px14 ?ph14; (case pf14 => exact fun x _ => x); (case ph14 => (conv => rhs; whnf)))) (by refine (?pf15 : (x : Scope) → x = fScope (nth (cBody (nth tops 7)) 2) → Scope) ?px15 ?ph15; (case pf15 => exact fun x _ => x); (case ph15 => (conv => rhs; whnf))) 3 [] Value.none Value.none Value.none (Value.str (Str.ofString "cpy313.wsgiref.headers") 289) none (Value.ref 89) Value.none 0)) #[])) ::
  ((nat_lit 91), (Obj.mk (Value.type "tuple") none (Data.seq #[] 0) #[])) ::
  ((nat_lit 93), (Obj.mk (Value.type "tuple") none (Data.seq #[(Value.str (Str.ofString "self") 437), (Value.str (Str.ofString "name") 438), (Value.str (Str.ofString "val") 439)] 0) #[])) ::
  ((nat_lit 94), (Obj.mk (Value.type "tuple") none (Data.seq #[] 0) #[])) ::
  ((nat_lit 96), (Obj.mk (Value.type "code") none (Data.fields #[(Value.str (Str.ofString "__setitem__") 434), (Value.str (Str.ofString "Headers.__setitem__") 435), (Value.str (Str.ofString "/claim/cut.py") 436), (Value.int 41 0), (Value.int 3 0), (Value.int 0 0), (Value.int 0 0), (Value.int 3 0), (Value.ref 91), (Value.bool true), (Value.int 276 0), (Value.ref 92), Value.none, (Value.ref 93), (Value.ref 94), (Value.ref 95), (Value.int 440 0), (Value.int 41 0), (Value.str (Str.ofString "/claim/cut.py") 441)]) #[])) ::
  ((nat_lit 97), (Obj.mk (Value.type "function") none (Data.func (FuncData.mk (Str.ofString "__setitem__") (Str.ofString "Headers.__setitem__") (by refine (?pf16 : (x : Arguments) → x = fArgs (nth (cBody (nth tops 7)) 3) → Arguments) ?px16 ?ph16; (case pf16 => exact fun x _ => x); (case ph16 => (conv => rhs; whnf))) (FuncBody.stmts (by refine (?pf17 : (x : (List Stmt)) → x = fBody (nth (cBody (nth tops 7)) 3) → (List Stmt)) ?px17 ?ph17; (case pf17 => exact fun x _ => x); (case ph17 => (conv => rhs; whnf)))) (by refine (?pf18 : (x : Scope) → x = fScope (nth (cBody (nth tops 7)) 3) → Scope) ?px18 ?ph18; (case pf18 => exact fun x _ => x); (case ph18 => (conv => rhs; whnf))) 3 [] Value.none Value.none Value.none (Value.str (Str.ofString "cpy313.wsgiref.headers") 289) none (Value.ref 96) Value.none 0)) #[])) ::
  ((nat_lit 98), (Obj.mk (Value.type "tuple") none (Data.seq #[] 0) #[])) ::
  ((nat_lit 101), (Obj.mk (Value.type "code") none (Data.fields #[(Value.str (Str.ofString "__delitem__") 443), (Value.str (Str.ofString "Headers.__delitem__") 444), (Value.str (Str.ofString "/claim/cut.py") 445), (Value.int 45 0), (Value.int 2 0), (Value.int 0 0), (Value.int 0 0), (Value.int 3 0), (Value.ref 98), (Value.bool true), (Value.int 276 0), (Value.ref 99), Value.none, Value.none, Value.none, (Value.ref 100), (Value.int 446 0), (Value.int 45 0), (Value.str (Str.ofString "/claim/cut.py") 447)]) #[])) ::
  ((nat_lit 102), (Obj.mk (Value.type "function") none (Data.func (FuncData.mk (Str.ofString "__delitem__") (Str.ofString "Headers.__delitem__") (by refine (?pf19 : (x : Arguments) → x = fArgs (nth (cBody (nth tops 7)) 4) → Arguments) ?px19 ?ph19; (case pf19 => exact fun x _ => x); (case ph19 => (conv => rhs; whnf))) (FuncBody.stmts (by refine (?pf20 : (x : (List Stmt)) → x = fBody (nth (cBody (nth tops 7)) 4) → (List Stmt)) ?px20 ?ph20; (case pf20 => exact fun x _ => x); (case ph20 => (conv => rhs; whnf)))) (by refine (?pf21 : (x : Scope) → x = fScope (nth (cBody (nth tops 7)) 4) → Scope) ?px21 ?ph21; (case pf21 => exact fun x _ => x); (case ph21 => (conv => rhs; whnf))) 3 [] Value.none Value.none Value.none (Value.str (Str.ofString "cpy313.wsgiref.headers") 289) none (Value.ref 101) Value.none 0)) #[])) ::
  ((nat_lit 103), (Obj.mk (Value.type "tuple") none (Data.seq #[] 0) #[])) ::
  ((nat_lit 105), (Obj.mk (Value.type "tuple") none (Data.seq #[(Value.str (Str.ofString "self") 452), (Value.str (Str.ofString "name") 453)] 0) #[])) ::
  ((nat_lit 106), (Obj.mk (Value.type "tuple") none (Data.seq #[] 0) #[])) ::
  ((nat_lit 108), (Obj.mk (Value.type "code") none (Data.fields #[(Value.str (Str.ofString "__getitem__") 449), (Value.str (Str.ofString "Headers.__getitem__") 450), (Value.str (Str.ofString "/claim/cut.py") 451), (Value.int 49 0), (Value.int 2 0), (Value.int 0 0), (Value.int 0 0), (Value.int 3 0), (Value.ref 103), (Value.bool true), (Value.int 276 0), (Value.ref 104), Value.none, (Value.ref 105), (Value.ref 106), (Value.ref 107), (Value.int 454 0), (Value.int 49 0), (Value.str (Str.ofString "/claim/cut.py") 455)]) #[])) ::
  ((nat_lit 109), (Obj.mk (Value.type "function") none (Data.func (FuncData.mk (Str.ofString "__getitem__") (Str.ofString "Headers.__getitem__") (by refine (?pf22 : (x : Arguments) → x = fArgs (nth (cBody (nth tops 7)) 5) → Arguments) ?px22 ?ph22; (case pf22 => exact fun x _ => x); (case ph22 => (conv => rhs; whnf))) (FuncBody.stmts (by refine (?pf23 : (x : (List Stmt)) → x = fBody (nth (cBody (nth tops 7)) 5) → (List Stmt)) ?px23 ?ph23; (case pf23 => exact fun x _ => x); (case ph23 => (conv => rhs; whnf)))) (by refine (?pf24 : (x : Scope) → x = fScope (nth (cBody (nth tops 7)) 5) → Scope) ?px24 ?ph24; (case pf24 => exact fun x _ => x); (case ph24 => (conv => rhs; whnf))) 3 [] Value.none Value.none Value.none (Value.str (Str.ofString "cpy313.wsgiref.headers") 289) none (Value.ref 108) Value.none 0)) #[])) ::
  ((nat_lit 110), (Obj.mk (Value.type "tuple") none (Data.seq #[] 0) #[])) ::
  ((nat_lit 112), (Obj.mk (Value.type "tuple") none (Data.seq #[(Value.str (Str.ofString "self") 460), (Value.str (Str.ofString "name") 461)] 0) #[])) ::
  ((nat_lit 113), (Obj.mk (Value.type "tuple") none (Data.seq #[] 0) #[])) ::
  ((nat_lit 115), (Obj.mk (Value.type "code") none (Data.fields #[(Value.str (Str.ofString "__contains__") 457), (Value.str (Str.ofString "Headers.__contains__") 458), (Value.str (Str.ofString "/claim/cut.py") 459), (Value.int 52 0), (Value.int 2 0), (Value.int 0 0), (Value.int 0 0), (Value.int 3 0), (Value.ref 110), (Value.bool true), (Value.int 276 0), (Value.ref 111), Value.none, (Value.ref 112), (Value.ref 113), (Value.ref 114), (Value.int 462 0), (Value.int 52 0), (Value.str (Str.ofString "/claim/cut.py") 463)]) #[])) ::
  ((nat_lit 116), (Obj.mk (Value.type "function") none (Data.func (FuncData.mk (Str.ofString "__contains__") (Str.ofString "Headers.__contains__") (by refine (?pf25 : (x : Arguments) → x = fArgs (nth (cBody (nth tops 7)) 6) → Arguments) ?px25 ?ph25; (case pf25 => exact fun x _ => x); (case ph25 => (conv => rhs; whnf))) (FuncBody.stmts (by refine (?pf26 : (x : (List Stmt)) → x = fBody (nth (cBody (nth tops 7)) 6) → (List Stmt)) ?px26 ?ph26; (case pf26 => exact fun x _ => x); (case ph26 => (conv => rhs; whnf)))) (by refine (?pf27 : (x : Scope) → x = fScope (nth (cBody (nth tops 7)) 6) → Scope) ?px27 ?ph27; (case pf27 => exact fun x _ => x); (case ph27 => (conv => rhs; whnf))) 3 [] Value.none Value.none Value.none (Value.str (Str.ofString "cpy313.wsgiref.headers") 289) none (Value.ref 115) Value.none 0)) #[])) ::
  ((nat_lit 117), (Obj.mk (Value.type "tuple") none (Data.seq #[] 0) #[])) ::
  ((nat_lit 120), (Obj.mk (Value.type "code") none (Data.fields #[(Value.str (Str.ofString "get_all") 465), (Value.str (Str.ofString "Headers.get_all") 466), (Value.str (Str.ofString "/claim/cut.py") 467), (Value.int 55 0), (Value.int 2 0), (Value.int 0 0), (Value.int 0 0), (Value.int 3 0), (Value.ref 117), (Value.bool true), (Value.int 276 0), (Value.ref 118), Value.none, Value.none, Value.none, (Value.ref 119), (Value.int 468 0), (Value.int 55 0), (Value.str (Str.ofString "/claim/cut.py") 469)]) #[])) ::
  ((nat_lit 121), (Obj.mk (Value.type "function") none (Data.func (FuncData.mk (Str.ofString "get_all") (Str.ofString "Headers.get_all") (by refine (?pf28 : (x : Arguments) → x = fArgs (nth (cBody (nth tops 7)) 7) → Arguments) ?px28 ?ph28; (case pf28 => exact fun x _ => x); (case ph28 => (conv => rhs; whnf))) (FuncBody.stmts (by refine (?pf29 : (x : (List Stmt)) → x = fBody (nth (cBody (nth tops 7)) 7) → (List Stmt)) ?px29 ?ph29; (case pf29 => exact fun x _ => x); (case ph29 => (conv => rhs; whnf)))) (by refine (?pf30 : (x : Scope) → x = fScope (nth (cBody (nth tops 7)) 7) → Scope) ?px30 ?ph30; (case pf30 => exact fun x _ => x); (case ph30 => (conv => rhs; whnf))) 3 [] Value.none Value.none Value.none (Value.str (Str.ofString "cpy313.wsgiref.headers") 289) none (Value.ref 120) Value.none 0)) #[])) ::
  ((nat_lit 122), (Obj.mk (Value.type "tuple") none (Data.seq #[Value.none] 0) #[])) ::
  ((nat_lit 123), (Obj.mk (Value.type "tuple") none (Data.seq #[] 0) #[])) ::
  ((nat_lit 125), (Obj.mk (Value.type "tuple") none (Data.seq #[(Value.str (Str.ofString "self") 474), (Value.str (Str.ofString "name") 475), (Value.str (Str.ofString "default") 476), (Value.str (Str.ofString "k") 477), (Value.str (Str.ofString "v") 478)] 0) #[])) ::
  ((nat_lit 126), (Obj.mk (Value.type "tuple") none (Data.seq #[] 0) #[])) ::
  ((nat_lit 128), (Obj.mk (Value.type "code") none (Data.fields #[(Value.str (Str.ofString "get") 471), (Value.str (Str.ofString "Headers.get") 472), (Value.str (Str.ofString "/claim/cut.py") 473), (Value.int 59 0), (Value.int 3 0), (Value.int 0 0), (Value.int 0 0), (Value.int 3 0), (Value.ref 123), (Value.bool true), (Value.int 276 0), (Value.ref 124), Value.none, (Value.ref 125), (Value.ref 126), (Value.ref 127), (Value.int 479 0), (Value.int 59 0), (Value.str (Str.ofString "/claim/cut.py") 480)]) #[])) ::
  ((nat_lit 129), (Obj.mk (Value.type "function") none (Data.func (FuncData.mk (Str.ofString "get") (Str.ofString "Headers.get") (by refine (?pf31 : (x : Arguments) → x = fArgs (nth (cBody (nth tops 7)) 8) → Arguments) ?px31 ?ph31; (case pf31 => exact fun x _ => x); (case ph31 => (conv => rhs; whnf))) (FuncBody.stmts (by refine (?pf32 : (x : (List Stmt)) → x = fBody (nth (cBody (nth tops 7)) 8) → (List Stmt)) ?px32 ?ph32; (case pf32 => exact fun x _ => x); (case ph32 => (conv => rhs; whnf)))) (by refine (?pf33 : (x : Scope) → x = fScope (nth (cBody (nth tops 7)) 8) → Scope) ?px33 ?ph33; (case pf33 => exact fun x _ => x); (case ph33 => (conv => rhs; whnf))) 3 [] (Value.ref 122) Value.none Value.none (Value.str (Str.ofString "cpy313.wsgiref.headers") 289) none (Value.ref 128) Value.none 0)) #[])) ::
  ((nat_lit 130), (Obj.mk (Value.type "tuple") none (Data.seq #[] 0) #[])) ::
  ((nat_lit 133), (Obj.mk (Value.type "code") none (Data.fields #[(Value.str (Str.ofString "keys") 482), (Value.str (Str.ofString "Headers.keys") 483), (Value.str (Str.ofString "/claim/cut.py") 484), (Value.int 66 0), (Value.int 1 0), (Value.int 0 0), (Value.int 0 0), (Value.int 3 0), (Value.ref 130), (Value.bool true), (Value.int 276 0), (Value.ref 131), Value.none, Value.none, Value.none, (Value.ref 132), (Value.int 485 0), (Value.int 66 0), (Value.str (Str.ofString "/claim/cut.py") 486)]) #[])) ::
  ((nat_lit 134), (Obj.mk (Value.type "function") none (Data.func (FuncData.mk (Str.ofString "keys") (Str.ofString "Headers.keys") (by refine (?pf34 : (x : Arguments) → x = fArgs (nth (cBody (nth tops 7)) 9) → Arguments) ?px34 ?ph34; (case pf34 => exact fun x _ => x); (case ph34 => (conv => rhs; whnf))) (FuncBody.stmts (by refine (?pf35 : (x : (List Stmt)) → x = fBody (nth (cBody (nth tops 7)) 9) → (List Stmt)) ?px35 ?ph35; (case pf35 => exact fun x _ => x); (case ph35 => (conv => rhs; whnf)))) (by refine (?pf36 : (x : Scope) → x = fScope (nth (cBody (nth tops 7)) 9) → Scope) ?px36 ?ph36; (case pf36 => exact fun x _ => x); (case ph36 => (conv => rhs; whnf))) 3 [] Value.none Value.none Value.none (Value.str (Str.ofString "cpy313.wsgiref.headers") 289) none (Value.ref 133) Value.none 0)) #[])) ::
  ((nat_lit 135), (Obj.mk (Value.type "tuple") none (Data.seq #[] 0) #[])) ::
  ((nat_lit 138), (Obj.mk (Value.type "code") none (Data.fields #[(Value.str (Str.ofString "values") 488), (Value.str (Str.ofString "Headers.values") 489), (Value.str (Str.ofString "/claim/cut.py") 490), (Value.int 69 0), (Value.int 1 0), (Value.int 0 0), (Value.int 0 0), (Value.int 3 0), (Value.ref 135), (Value.bool true), (Value.int 276 0), (Value.ref 136), Value.none, Value.none, Value.none, (Value.ref 137), (Value.int 491 0), (Value.int 69 0), (Value.str (Str.ofString "/claim/cut.py") 492)]) #[])) ::
  ((nat_lit 139), (Obj.mk (Value.type "function") none (Data.func (FuncData.mk (Str.ofString "values") (Str.ofString "Headers.values") (by refine (?pf37 : (x : Arguments) → x = fArgs (nth (cBody (nth tops 7)) 10) → Arguments) ?px37 ?ph37; (case pf37 => exact fun x _ => x); (case ph37 => (conv => rhs; whnf))) (FuncBody.stmts (by refine (?pf38 : (x : (List Stmt)) → x = fBody (nth (cBody (nth tops 7)) 10) → (List Stmt)) ?px38 ?ph38; (case pf38 => exact fun x _ => x); (case ph38 => (conv => rhs; whnf)))) (by refine (?pf39 : (x : Scope) → x = fScope (nth (cBody (nth tops 7)) 10) → Scope) ?px39 ?ph39; (case pf39 => exact fun x _ => x); (case ph39 => (conv => rhs; whnf))) 3 [] Value.none Value.none Value.none (Value.str (Str.ofString "cpy313.wsgiref.headers") 289) none (Value.ref 138) Value.none 0)) #[])) ::
  ((nat_lit 140), (Obj.mk (Value.type "tuple") none (Data.seq #[] 0) #[])) ::
  ((nat_lit 142), (Obj.mk (Value.type "tuple") none (Data.seq #[(Value.str (Str.ofString "self") 497)] 0) #[])) ::
  ((nat_lit 143), (Obj.mk (Value.type "tuple") none (Data.seq #[] 0) #[])) ::
  ((nat_lit 145), (Obj.mk (Value.type "code") none (Data.fields #[(Value.str (Str.ofString "items") 494), (Value.str (Str.ofString "Headers.items") 495), (Value.str (Str.ofString "/claim/cut.py") 496), (Value.int 72 0), (Value.int 1 0), (Value.int 0 0), (Value.int 0 0), (Value.int 3 0), (Value.ref 140), (Value.bool true), (Value.int 276 0), (Value.ref 141), Value.none, (Value.ref 142), (Value.ref 143), (Value.ref 144), (Value.int 498 0), (Value.int 72 0), (Value.str (Str.ofString "/claim/cut.py") 499)]) #[])) ::
  ((nat_lit 146), (Obj.mk (Value.type "function") none (Data.func (FuncData.mk (Str.ofString "items") (Str.ofString "Headers.items") (by refine (?pf40 : (x : Arguments) → x = fArgs (nth (cBody (nth tops 7)) 11) → Arguments) ?px40 ?ph40; (case pf40 => exact fun x _ => x); (case ph40 => (conv => rhs; whnf))) (FuncBody.stmts (by refine (?pf41 : (x : (List Stmt)) → x = fBody (nth (cBody (nth tops 7)) 11) → (List Stmt)) ?px41 ?ph41; (case pf41 => exact fun x _ => x); (case ph41 => (conv => rhs; whnf)))) (by refine (?pf42 : (x : Scope) → x = fScope (nth (cBody (nth tops 7)) 11) → Scope) ?px42 ?ph42; (case pf42 => exact fun x _ => x); (case ph42 => (conv => rhs; whnf))) 3 [] Value.none Value.none Value.none (Value.str (Str.ofString "cpy313.wsgiref.headers") 289) none (Value.ref 145) Value.none 0)) #[])) ::
  ((nat_lit 147), (Obj.mk (Value.type "tuple") none (Data.seq #[] 0) #[])) ::
  ((nat_lit 149), (Obj.mk (Value.type "tuple") none (Data.seq #[(Value.str (Str.ofString "self") 504)] 0) #[])) ::
  ((nat_lit 150), (Obj.mk (Value.type "tuple") none (Data.seq #[] 0) #[])) ::
  ((nat_lit 152), (Obj.mk (Value.type "code") none (Data.fields #[(Value.str (Str.ofString "__repr__") 501), (Value.str (Str.ofString "Headers.__repr__") 502), (Value.str (Str.ofString "/claim/cut.py") 503), (Value.int 75 0), (Value.int 1 0), (Value.int 0 0), (Value.int 0 0), (Value.int 3 0), (Value.ref 147), (Value.bool true), (Value.int 276 0), (Value.ref 148), Value.none, (Value.ref 149), (Value.ref 150), (Value.ref 151), (Value.int 505 0), (Value.int 75 0), (Value.str (Str.ofString "/claim/cut.py") 506)]) #[])) ::
  ((nat_lit 153), (Obj.mk (Value.type "function") none (Data.func (FuncData.mk (Str.ofString "__repr__") (Str.ofString "Headers.__repr__") (by refine (?pf43 : (x : Arguments) → x = fArgs (nth (cBody (nth tops 7)) 12) → Arguments) ?px43 ?ph43; (case pf43 => exact fun x _ => x); (case ph43 => (conv => rhs; whnf))) (FuncBody.stmts (by refine (?pf44 : (x : (List Stmt)) → x = fBody (nth (cBody (nth tops 7)) 12) → (List Stmt)) ?px44 ?ph44; (case pf44 => exact fun x _ => x); (case ph44 => (conv => rhs; whnf)))) (by refine (?pf45 : (x : Scope) → x = fScope (nth (cBody (nth tops 7)) 12) → Scope) ?px45 ?ph45; (case pf45 => exact fun x _ => x); (case ph45 => (conv => rhs; whnf))) 3 [] Value.none Value.none Value.none (Value.str (Str.ofString "cpy313.wsgiref.headers") 289) none (Value.ref 152) Value.none 0)) #[])) ::
  ((nat_lit 154), (Obj.mk (Value.type "tuple") none (Data.seq #[] 0) #[])) ::
  ((nat_lit 157), (Obj.mk (Value.type "code") none (Data.fields #[(Value.str (Str.ofString "__str__") 508), (Value.str (Str.ofString "Headers.__str__") 509), (Value.str (Str.ofString "/claim/cut.py") 510), (Value.int 78 0), (Value.int 1 0), (Value.int 0 0), (Value.int 0 0), (Value.int 3 0), (Value.ref 154), (Value.bool true), (Value.int 276 0), (Value.ref 155), Value.none, Value.none, Value.none, (Value.ref 156), (Value.int 511 0), (Value.int 78 0), (Value.str (Str.ofString "/claim/cut.py") 512)]) #[])) ::
  ((nat_lit 158), (Obj.mk (Value.type "function") none (Data.func (FuncData.mk (Str.ofString "__str__") (Str.ofString "Headers.__str__") (by refine (?pf46 : (x : Arguments) → x = fArgs (nth (cBody (nth tops 7)) 13) → Arguments) ?px46 ?ph46; (case pf46 => exact fun x _ => x); (case ph46 => (conv => rhs; whnf))) (FuncBody.stmts (by refine (?pf47 : (x : (List Stmt)) → x = fBody (nth (cBody (nth tops 7)) 13) → (List Stmt)) ?px47 ?ph47; (case pf47 => exact fun x _ => x); (case ph47 => (conv => rhs; whnf)))) (by refine (?pf48 : (x : Scope) → x = fScope (nth (cBody (nth tops 7)) 13) → Scope) ?px48 ?ph48; (case pf48 => exact fun x _ => x); (case ph48 => (conv => rhs; whnf))) 3 [] Value.none Value.none Value.none (Value.str (Str.ofString "cpy313.wsgiref.headers") 289) none (Value.ref 157) Value.none 0)) #[])) ::
  ((nat_lit 159), (Obj.mk (Value.type "tuple") none (Data.seq #[] 0) #[])) ::
  ((nat_lit 161), (Obj.mk (Value.type "tuple") none (Data.seq #[(Value.str (Str.ofString "self") 517)] 0) #[])) ::
  ((nat_lit 162), (Obj.mk (Value.type "tuple") none (Data.seq #[] 0) #[])) ::
  ((nat_lit 164), (Obj.mk (Value.type "code") none (Data.fields #[(Value.str (Str.ofString "__bytes__") 514), (Value.str (Str.ofString "Headers.__bytes__") 515), (Value.str (Str.ofString "/claim/cut.py") 516), (Value.int 81 0), (Value.int 1 0), (Value.int 0 0), (Value.int 0 0), (Value.int 3 0), (Value.ref 159), (Value.bool true), (Value.int 276 0), (Value.ref 160), Value.none, (Value.ref 161), (Value.ref 162), (Value.ref 163), (Value.int 518 0), (Value.int 81 0), (Value.str (Str.ofString "/claim/cut.py") 519)]) #[])) ::
  ((nat_lit 165), (Obj.mk (Value.type "function") none (Data.func (FuncData.mk (Str.ofString "__bytes__") (Str.ofString "Headers.__bytes__") (by refine (?pf49 : (x : Arguments) → x = fArgs (nth (cBody (nth tops 7)) 14) → Arguments) ?px49 ?ph49; (case pf49 => exact fun x _ => x); (case ph49 => (conv => rhs; whnf))) (FuncBody.stmts (by refine (?pf50 : (x : (List Stmt)) → x = fBody (nth (cBody (nth tops 7)) 14) → (List Stmt)) ?px50 ?ph50; (case pf50 => exact fun x _ => x); (case ph50 => (conv => rhs; whnf)))) (by refine (?pf51 : (x : Scope) → x = fScope (nth (cBody (nth tops 7)) 14) → Scope) ?px51 ?ph51; (case pf51 => exact fun x _ => x); (case ph51 => (conv => rhs; whnf))) 3 [] Value.none Value.none Value.none (Value.str (Str.ofString "cpy313.wsgiref.headers") 289) none (Value.ref 164) Value.none 0)) #[])) ::
  ((nat_lit 166), (Obj.mk (Value.type "tuple") none (Data.seq #[] 0) #[])) ::
  ((nat_lit 168), (Obj.mk (Value.type "tuple") none (Data.seq #[(Value.str (Str.ofString "self") 524), (Value.str (Str.ofString "name") 525), (Value.str (Str.ofString "value") 526)] 0) #[])) ::
  ((nat_lit 169), (Obj.mk (Value.type "tuple") none (Data.seq #[] 0) #[])) ::
  ((nat_lit 171), (Obj.mk (Value.type "code") none (Data.fields #[(Value.str (Str.ofString "setdefault") 521), (Value.str (Str.ofString "Headers.setdefault") 522), (Value.str (Str.ofString "/claim/cut.py") 523), (Value.int 84 0), (Value.int 3 0), (Value.int 0 0), (Value.int 0 0), (Value.int 3 0), (Value.ref 166), (Value.bool true), (Value.int 276 0), (Value.ref 167), Value.none, (Value.ref 168), (Value.ref 169), (Value.ref 170), (Value.int 527 0), (Value.int 84 0), (Value.str (Str.ofString "/claim/cut.py") 528)]) #[])) ::
  ((nat_lit 172), (Obj.mk (Value.type "function") none (Data.func (FuncData.mk (Str.ofString "setdefault") (Str.ofString "Headers.setdefault") (by refine (?pf52 : (x : Arguments) → x = fArgs (nth (cBody (nth tops 7)) 15) → Arguments) ?px52 ?ph52; (case pf52 => exact fun x _ => x); (case ph52 => (conv => rhs; whnf))) (FuncBody.stmts (by refine (?pf53 : (x : (List Stmt)) → x = fBody (nth (cBody (nth tops 7)) 15) → (List Stmt)) ?px53 ?ph53; (case pf53 => exact fun x _ => x); (case ph53 => (conv => rhs; whnf)))) (by refine (?pf54 : (x : Scope) → x = fScope (nth (cBody (nth tops 7)) 15) → Scope) ?px54 ?ph54; (case pf54 => exact fun x _ => x); (case ph54 => (conv => rhs; whnf))) 3 [] Value.none Value.none Value.none (Value.str (Str.ofString "cpy313.wsgiref.headers") 289) none (Value.ref 171) Value.none 0)) #[])) ::
  ((nat_lit 173), (Obj.mk (Value.type "tuple") none (Data.seq #[] 0) #[])) ::
  ((nat_lit 175), (Obj.mk (Value.type "tuple") none (Data.seq #[(Value.str (Str.ofString "self") 533), (Value.str (Str.ofString "_name") 534), (Value.str (Str.ofString "_value") 535), (Value.str (Str.ofString "_params") 536), (Value.str (Str.ofString "parts") 537), (Value.str (Str.ofString "k") 538), (Value.str (Str.ofString "v") 539)] 0) #[])) ::
  ((nat_lit 176), (Obj.mk (Value.type "tuple") none (Data.seq #[] 0) #[])) ::
  ((nat_lit 178), (Obj.mk (Value.type "code") none (Data.fields #[(Value.str (Str.ofString "add_header") 530), (Value.str (Str.ofString "Headers.add_header") 531), (Value.str (Str.ofString "/claim/cut.py") 532), (Value.int 87 0), (Value.int 3 0), (Value.int 0 0), (Value.int 0 0), (Value.int 11 0), (Value.ref 173), (Value.bool true), (Value.int 276 0), (Value.ref 174), Value.none, (Value.ref 175), (Value.ref 176), (Value.ref 177), (Value.int 540 0), (Value.int 87 0), (Value.str (Str.ofString "/claim/cut.py") 541)]) #[])) ::
  ((nat_lit 179), (Obj.mk (Value.type "function") none (Data.func (FuncData.mk (Str.ofString "add_header") (Str.ofString "Headers.add_header") (by refine (?pf55 : (x : Arguments) → x = fArgs (nth (cBody (nth tops 7)) 16) → Arguments) ?px55 ?ph55; (case pf55 => exact fun x _ => x); (case ph55 => (conv => rhs; whnf))) (FuncBody.stmts (by refine (?pf56 : (x : (List Stmt)) → x = fBody (nth (cBody (nth tops 7)) 16) → (List Stmt)) ?px56 ?ph56; (case pf56 => exact fun x _ => x); (case ph56 => (conv => rhs; whnf)))) (by refine (?pf57 : (x : Scope) → x = fScope (nth (cBody (nth tops 7)) 16) → Scope) ?px57 ?ph57; (case pf57 => exact fun x _ => x); (case ph57 => (conv => rhs; whnf))) 3 [] Value.none Value.none Value.none (Value.str (Str.ofString "cpy313.wsgiref.headers") 289) none (Value.ref 178) Value.none 0)) #[])) ::
  ((nat_lit 180), (Obj.mk (Value.type "tuple") none (Data.seq #[(Value.str (Str.ofString "_headers") 543)] 0) #[])) ::
  ((nat_lit 181), (Obj.mk (Value.type "dict") none (Data.dict #[(DictEntry.mk (PyData.keyHash P (Str.ofString "__module__")) (Value.str (Str.ofString "__module__") 402) (Value.str (Str.ofString "cpy313.wsgiref.headers") 289)), (DictEntry.mk (PyData.keyHash P (Str.ofString "__firstlineno__")) (Value.str (Str.ofString "__firstlineno__") 406) (Value.int 18 405)), (DictEntry.mk (PyData.keyHash P (Str.ofString "__init__")) (Value.str (Str.ofString "__init__") 416) (Value.ref 76)), (DictEntry.mk (PyData.keyHash P (Str.ofString "_convert_string_type")) (Value.str (Str.ofString "_convert_string_type") 426) (Value.ref 83)), (DictEntry.mk (PyData.keyHash P (Str.ofString "__len__")) (Value.str (Str.ofString "__len__") 433) (Value.ref 90)), (DictEntry.mk (PyData.keyHash P (Str.ofString "__setitem__")) (Value.str (Str.ofString "__setitem__") 442) (Value.ref 97)), (DictEntry.mk (PyData.keyHash P (Str.ofString "__delitem__")) (Value.str (Str.ofString "__delitem__") 448) (Value.ref 102)), (DictEntry.mk (PyData.keyHash P (Str.ofString "__getitem__")) (Value.str (Str.ofString "__getitem__") 456) (Value.ref 109)), (DictEntry.mk (PyData.keyHash P (Str.ofString "__contains__")) (Value.str (Str.ofString "__contains__") 464) (Value.ref 116)), (DictEntry.mk (PyData.keyHash P (Str.ofString "get_all")) (Value.str (Str.ofString "get_all") 470) (Value.ref 121)), (DictEntry.mk (PyData.keyHash P (Str.ofString "get")) (Value.str (Str.ofString "get") 481) (Value.ref 129)), (DictEntry.mk (PyData.keyHash P (Str.ofString "keys")) (Value.str (Str.ofString "keys") 487) (Value.ref 134)), (DictEntry.mk (PyData.keyHash P (Str.ofString "values")) (Value.str (Str.ofString "values") 493) (Value.ref 139)), (DictEntry.mk (PyData.keyHash P (Str.ofString "items")) (Value.str (Str.ofString "items") 500) (Value.ref 146)), (DictEntry.mk (PyData.keyHash P (Str.ofString "__repr__")) (Value.str (Str.ofString "__repr__") 507) (Value.ref 153)), (DictEntry.mk (PyData.keyHash P (Str.ofString "__str__")) (Value.str (Str.ofString "__str__") 513) (Value.ref 158)), (DictEntry.mk (PyData.keyHash P (Str.ofString "__bytes__")) (Value.str (Str.ofString "__bytes__") 520) (Value.ref 165)), (DictEntry.mk (PyData.keyHash P (Str.ofString "setdefault")) (Value.str (Str.ofString "setdefault") 529) (Value.ref 172)), (DictEntry.mk (PyData.keyHash P (Str.ofString "add_header")) (Value.str (Str.ofString "add_header") 542) (Value.ref 179)), (DictEntry.mk (PyData.keyHash P (Str.ofString "__static_attributes__")) (Value.str (Str.ofString "__static_attributes__") 544) (Value.ref 180)), (DictEntry.mk (PyData.keyHash P (Str.ofString "__dict__")) (Value.str (Str.ofString "__dict__") 546) (Value.ref 183)), (DictEntry.mk (PyData.keyHash P (Str.ofString "__weakref__")) (Value.str (Str.ofString "__weakref__") 548) (Value.ref 184)), (DictEntry.mk (PyData.keyHash P (Str.ofString "__doc__")) (Value.str (Str.ofString "__doc__") 549) Value.none)] 4) #[])) ::
  ((nat_lit 182), (Obj.mk (Value.type "type") none (Data.cls (ClassData.mk (Str.ofString "Headers") [(Value.type "object")] [(Value.ref 182), (Value.type "object")] 181 (Str.ofString "Headers") true [] [] false none false)) #[none, none, (some (Value.str (Str.ofString "Headers") 395)), (some (Value.str (Str.ofString "Headers") 403)), (some (Value.builtin "object.__new__")), (some (Value.bool true))])) ::
  ((nat_lit 183), (Obj.mk (Value.type "getset_descriptor") none (Data.fields #[(Value.str (Str.ofString "__dict__") 545), (Value.ref 182), (Value.builtin "function.__dict__"), (Value.builtin "function.__dict__#set")]) #[])) ::
  ((nat_lit 184), (Obj.mk (Value.type "getset_descriptor") none (Data.fields #[(Value.str (Str.ofString "__weakref__") 547), (Value.ref 182), (Value.builtin "ExceptionGroup.__weakref__"), Value.none]) #[])) ::
  ((nat_lit 187), (Obj.mk (Value.type "tuple") none (Data.seq #[] 0) #[])) ::
  ((nat_lit 189), (Obj.mk (Value.type "tuple") none (Data.seq #[(Value.str (Str.ofString "f") 557), (Value.str (Str.ofString "data") 558)] 0) #[])) ::
  ((nat_lit 190), (Obj.mk (Value.type "tuple") none (Data.seq #[] 0) #[])) ::
  ((nat_lit 192), (Obj.mk (Value.type "code") none (Data.fields #[(Value.str (Str.ofString "read_uint1") 554), (Value.str (Str.ofString "read_uint1") 555), (Value.str (Str.ofString "/claim/cut.py") 556), (Value.int 101 0), (Value.int 1 0), (Value.int 0 0), (Value.int 0 0), (Value.int 3 0), (Value.ref 187), (Value.bool true), (Value.int 276 0), (Value.ref 188), Value.none, (Value.ref 189), (Value.ref 190), (Value.ref 191), (Value.int 559 0), (Value.int 101 0), (Value.str (Str.ofString "/claim/cut.py") 560)]) #[])) ::
  ((nat_lit 193), (Obj.mk (Value.type "function") none (Data.func (FuncData.mk (Str.ofString "read_uint1") (Str.ofString "read_uint1") (by refine (?pf58 : (x : Arguments) → x = fArgs (nth tops 9) → Arguments) ?px58 ?ph58; (case pf58 => exact fun x _ => x); (case ph58 => (conv => rhs; whnf))) (FuncBody.stmts (by refine (?pf59 : (x : (List Stmt)) → x = fBody (nth tops 9) → (List Stmt)) ?px59 ?ph59; (case pf59 => exact fun x _ => x); (case ph59 => (conv => rhs; whnf)))) (by refine (?pf60 : (x : Scope) → x = fScope (nth tops 9) → Scope) ?px60 ?ph60; (case pf60 => exact fun x _ => x); (case ph60 => (conv => rhs; whnf))) 3 [] Value.none Value.none Value.none (Value.str (Str.ofString "cpy313.pickletools") 552) none (Value.ref 192) Value.none 0)) #[])) ::
  ((nat_lit 194), (Obj.mk (Value.type "tuple") none (Data.seq #[] 0) #[])) ::
  ((nat_lit 196), (Obj.mk (Value.type "tuple") none (Data.seq #[(Value.str (Str.ofString "f") 565), (Value.str (Str.ofString "n") 566), (Value.str (Str.ofString "data") 567)] 0) #[])) ::
  ((nat_lit 197), (Obj.mk (Value.type "tuple") none (Data.seq #[] 0) #[])) ::
  ((nat_lit 199), (Obj.mk (Value.type "code") none (Data.fields #[(Value.str (Str.ofString "read_string1") 562), (Value.str (Str.ofString "read_string1") 563), (Value.str (Str.ofString "/claim/cut.py") 564), (Value.int 106 0), (Value.int 1 0), (Value.int 0 0), (Value.int 0 0), (Value.int 3 0), (Value.ref 194), (Value.bool true), (Value.int 276 0), (Value.ref 195), Value.none, (Value.ref 196), (Value.ref 197), (Value.ref 198), (Value.int 568 0), (Value.int 106 0), (Value.str (Str.ofString "/claim/cut.py") 569)]) #[])) ::
  ((nat_lit 200), (Obj.mk (Value.type "function") none (Data.func (FuncData.mk (Str.ofString "read_string1") (Str.ofString "read_string1") (by refine (?pf61 : (x : Arguments) → x = fArgs (nth tops 10) → Arguments) ?px61 ?ph61; (case pf61 => exact fun x _ => x); (case ph61 => (conv => rhs; whnf))) (FuncBody.stmts (by refine (?pf62 : (x : (List Stmt)) → x = fBody (nth tops 10) → (List Stmt)) ?px62 ?ph62; (case pf62 => exact fun x _ => x); (case ph62 => (conv => rhs; whnf)))) (by refine (?pf63 : (x : Scope) → x = fScope (nth tops 10) → Scope) ?px63 ?ph63; (case pf63 => exact fun x _ => x); (case ph63 => (conv => rhs; whnf))) 3 [] Value.none Value.none Value.none (Value.str (Str.ofString "cpy313.pickletools") 552) none (Value.ref 199) Value.none 0)) #[])) ::
  ((nat_lit 208), (Obj.mk (Value.type "tuple") none (Data.seq #[] 0) #[])) ::
  ((nat_lit 210), (Obj.mk (Value.type "tuple") none (Data.seq #[(Value.str (Str.ofString "self") 586), (Value.str (Str.ofString "value") 587)] 0) #[])) ::
  ((nat_lit 211), (Obj.mk (Value.type "tuple") none (Data.seq #[] 0) #[])) ::
  ((nat_lit 213), (Obj.mk (Value.type "code") none (Data.fields #[(Value.str (Str.ofString "__init__") 583), (Value.str (Str.ofString "_Example.__init__") 584), (Value.str (Str.ofString "/claim/cut.py") 585), (Value.int 115 0), (Value.int 2 0), (Value.int 0 0), (Value.int 0 0), (Value.int 3 0), (Value.ref 208), (Value.bool true), (Value.int 276 0), (Value.ref 209), Value.none, (Value.ref 210), (Value.ref 211), (Value.ref 212), (Value.int 588 0), (Value.int 115 0), (Value.str (Str.ofString "/claim/cut.py") 589)]) #[])) ::
  ((nat_lit 214), (Obj.mk (Value.type "function") none (Data.func (FuncData.mk (Str.ofString "__init__") (Str.ofString "_Example.__init__") (by refine (?pf64 : (x : Arguments) → x = fArgs (nth (cBody (nth tops 11)) 0) → Arguments) ?px64 ?ph64; (case pf64 => exact fun x _ => x); (case ph64 => (conv => rhs; whnf))) (FuncBody.stmts (by refine (?pf65 : (x : (List Stmt)) → x = fBody (nth (cBody (nth tops 11)) 0) → (List Stmt)) ?px65 ?ph65; (case pf65 => exact fun x _ => x); (case ph65 => (conv => rhs; whnf)))) (by refine (?pf66 : (x : Scope) → x = fScope (nth (cBody (nth tops 11)) 0) → Scope) ?px66 ?ph66; (case pf66 => exact fun x _ => x); (case ph66 => (conv => rhs; whnf))) 3 [] Value.none Value.none Value.none (Value.str (Str.ofString "cpy313.pickletools") 552) none (Value.ref 213) Value.none 0)) #[])) ::
  ((nat_lit 215), (Obj.mk (Value.type "tuple") none (Data.seq #[(Value.str (Str.ofString "value") 591)] 0) #[])) ::
  ((nat_lit 216), (Obj.mk (Value.type "dict") none (Data.dict #[(DictEntry.mk (PyData.keyHash P (Str.ofString "__module__")) (Value.str (Str.ofString "__module__") 578) (Value.str (Str.ofString "cpy313.pickletools") 552)), (DictEntry.mk (PyData.keyHash P (Str.ofString "__firstlineno__")) (Value.str (Str.ofString "__firstlineno__") 582) (Value.int 113 581)), (DictEntry.mk (PyData.keyHash P (Str.ofString "__init__")) (Value.str (Str.ofString "__init__") 590) (Value.ref 214)), (DictEntry.mk (PyData.keyHash P (Str.ofString "__static_attributes__")) (Value.str (Str.ofString "__static_attributes__") 592) (Value.ref 215)), (DictEntry.mk (PyData.keyHash P (Str.ofString "__dict__")) (Value.str (Str.ofString "__dict__") 594) (Value.ref 218)), (DictEntry.mk (PyData.keyHash P (Str.ofString "__weakref__")) (Value.str (Str.ofString "__weakref__") 596) (Value.ref 219)), (DictEntry.mk (PyData.keyHash P (Str.ofString "__doc__")) (Value.str (Str.ofString "__doc__") 597) Value.none)] 4) #[])) ::
  ((nat_lit 217), (Obj.mk (Value.type "type") none (Data.cls (ClassData.mk (Str.ofString "_Example") [(Value.type "object")] [(Value.ref 217), (Value.type "object")] 216 (Str.ofString "_Example") true [] [] false none false)) #[none, none, (some (Value.str (Str.ofString "_Example") 571)), (some (Value.str (Str.ofString "_Example") 579)), (some (Value.builtin "object.__new__")), (some (Value.bool true))])) ::
  ((nat_lit 218), (Obj.mk (Value.type "getset_descriptor") none (Data.fields #[(Value.str (Str.ofString "__dict__") 593), (Value.ref 217), (Value.builtin "function.__dict__"), (Value.builtin "function.__dict__#set")]) #[])) ::
  ((nat_lit 219), (Obj.mk (Value.type "getset_descriptor") none (Data.fields #[(Value.str (Str.ofString "__weakref__") 595), (Value.ref 217), (Value.builtin "ExceptionGroup.__weakref__"), Value.none]) #[])) ::
  ((nat_lit 222), (Obj.mk (Value.type "tuple") none (Data.seq #[] 0) #[])) ::
  ((nat_lit 224), (Obj.mk (Value.type "tuple") none (Data.seq #[(Value.str (Str.ofString "stream") 605), (Value.str (Str.ofString "size") 606), (Value.str (Str.ofString "took") 607)] 0) #[])) ::
  ((nat_lit 225), (Obj.mk (Value.type "tuple") none (Data.seq #[] 0) #[])) ::
  ((nat_lit 227), (Obj.mk (Value.type "code") none (Data.fields #[(Value.str (Str.ofString "_law_take") 602), (Value.str (Str.ofString "_law_take") 603), (Value.str (Str.ofString "/claim/cut.py") 604), (Value.int 118 0), (Value.int 2 0), (Value.int 0 0), (Value.int 0 0), (Value.int 3 0), (Value.ref 222), (Value.bool true), (Value.int 276 0), (Value.ref 223), Value.none, (Value.ref 224), (Value.ref 225), (Value.ref 226), (Value.int 608 0), (Value.int 118 0), (Value.str (Str.ofString "/claim/cut.py") 609)]) #[])) ::
  ((nat_lit 228), (Obj.mk (Value.type "function") none (Data.func (FuncData.mk (Str.ofString "_law_take") (Str.ofString "_law_take") (by refine (?pf67 : (x : Arguments) → x = fArgs (nth tops 13) → Arguments) ?px67 ?ph67; (case pf67 => exact fun x _ => x); (case ph67 => (conv => rhs; whnf))) (FuncBody.stmts (by refine (?pf68 : (x : (List Stmt)) → x = fBody (nth tops 13) → (List Stmt)) ?px68 ?ph68; (case pf68 => exact fun x _ => x); (case ph68 => (conv => rhs; whnf)))) (by refine (?pf69 : (x : Scope) → x = fScope (nth tops 13) → Scope) ?px69 ?ph69; (case pf69 => exact fun x _ => x); (case ph69 => (conv => rhs; whnf))) 3 [] Value.none Value.none Value.none (Value.str (Str.ofString "law_nb0223_01") 600) none (Value.ref 227) Value.none 0)) #[])) ::
  ((nat_lit 229), (Obj.mk (Value.type "tuple") none (Data.seq #[] 0) #[])) ::
  ((nat_lit 231), (Obj.mk (Value.type "tuple") none (Data.seq #[(Value.str (Str.ofString "octets") 614)] 0) #[])) ::
  ((nat_lit 232), (Obj.mk (Value.type "tuple") none (Data.seq #[(Value.str (Str.ofString "stream") 615)] 0) #[])) ::
  ((nat_lit 234), (Obj.mk (Value.type "code") none (Data.fields #[(Value.str (Str.ofString "_law_stream") 611), (Value.str (Str.ofString "_law_stream") 612), (Value.str (Str.ofString "/claim/cut.py") 613), (Value.int 122 0), (Value.int 1 0), (Value.int 0 0), (Value.int 0 0), (Value.int 3 0), (Value.ref 229), (Value.bool true), (Value.int 276 0), (Value.ref 230), Value.none, (Value.ref 231), (Value.ref 232), (Value.ref 233), (Value.int 616 0), (Value.int 122 0), (Value.str (Str.ofString "/claim/cut.py") 617)]) #[])) ::
  ((nat_lit 235), (Obj.mk (Value.type "function") none (Data.func (FuncData.mk (Str.ofString "_law_stream") (Str.ofString "_law_stream") (by refine (?pf70 : (x : Arguments) → x = fArgs (nth tops 14) → Arguments) ?px70 ?ph70; (case pf70 => exact fun x _ => x); (case ph70 => (conv => rhs; whnf))) (FuncBody.stmts (by refine (?pf71 : (x : (List Stmt)) → x = fBody (nth tops 14) → (List Stmt)) ?px71 ?ph71; (case pf71 => exact fun x _ => x); (case ph71 => (conv => rhs; whnf)))) (by refine (?pf72 : (x : Scope) → x = fScope (nth tops 14) → Scope) ?px72 ?ph72; (case pf72 => exact fun x _ => x); (case ph72 => (conv => rhs; whnf))) 3 [] Value.none Value.none Value.none (Value.str (Str.ofString "law_nb0223_01") 600) none (Value.ref 234) Value.none 0)) #[])) ::
  ((nat_lit 236), (Obj.mk (Value.type "tuple") none (Data.seq #[] 0) #[])) ::
  ((nat_lit 239), (Obj.mk (Value.type "code") none (Data.fields #[(Value.str (Str.ofString "_law_item") 619), (Value.str (Str.ofString "_law_item") 620), (Value.str (Str.ofString "/claim/cut.py") 621), (Value.int 126 0), (Value.int 1 0), (Value.int 0 0), (Value.int 0 0), (Value.int 3 0), (Value.ref 236), (Value.bool true), (Value.int 276 0), (Value.ref 237), Value.none, Value.none, Value.none, (Value.ref 238), (Value.int 622 0), (Value.int 126 0), (Value.str (Str.ofString "/claim/cut.py") 623)]) #[])) ::
  ((nat_lit 240), (Obj.mk (Value.type "function") none (Data.func (FuncData.mk (Str.ofString "_law_item") (Str.ofString "_law_item") (by refine (?pf73 : (x : Arguments) → x = fArgs (nth tops 15) → Arguments) ?px73 ?ph73; (case pf73 => exact fun x _ => x); (case ph73 => (conv => rhs; whnf))) (FuncBody.stmts (by refine (?pf74 : (x : (List Stmt)) → x = fBody (nth tops 15) → (List Stmt)) ?px74 ?ph74; (case pf74 => exact fun x _ => x); (case ph74 => (conv => rhs; whnf)))) (by refine (?pf75 : (x : Scope) → x = fScope (nth tops 15) → Scope) ?px75 ?ph75; (case pf75 => exact fun x _ => x); (case ph75 => (conv => rhs; whnf))) 3 [] Value.none Value.none Value.none (Value.str (Str.ofString "law_nb0223_01") 600) none (Value.ref 239) Value.none 0)) #[])) ::
  ((nat_lit 241), (Obj.mk (Value.type "tuple") none (Data.seq #[] 0) #[])) ::
  ((nat_lit 243), (Obj.mk (Value.type "tuple") none (Data.seq #[(Value.str (Str.ofString "octets") 628), (Value.str (Str.ofString "stream") 629), (Value.str (Str.ofString "names") 630)] 0) #[])) ::
  ((nat_lit 244), (Obj.mk (Value.type "tuple") none (Data.seq #[] 0) #[])) ::
  ((nat_lit 246), (Obj.mk (Value.type "code") none (Data.fields #[(Value.str (Str.ofString "_law_names") 625), (Value.str (Str.ofString "_law_names") 626), (Value.str (Str.ofString "/claim/cut.py") 627), (Value.int 128 0), (Value.int 1 0), (Value.int 0 0), (Value.int 0 0), (Value.int 3 0), (Value.ref 241), (Value.bool true), (Value.int 276 0), (Value.ref 242), Value.none, (Value.ref 243), (Value.ref 244), (Value.ref 245), (Value.int 631 0), (Value.int 128 0), (Value.str (Str.ofString "/claim/cut.py") 632)]) #[])) ::
  ((nat_lit 247), (Obj.mk (Value.type "function") none (Data.func (FuncData.mk (Str.ofString "_law_names") (Str.ofString "_law_names") (by refine (?pf76 : (x : Arguments) → x = fArgs (nth tops 16) → Arguments) ?px76 ?ph76; (case pf76 => exact fun x _ => x); (case ph76 => (conv => rhs; whnf))) (FuncBody.stmts (by refine (?pf77 : (x : (List Stmt)) → x = fBody (nth tops 16) → (List Stmt)) ?px77 ?ph77; (case pf77 => exact fun x _ => x); (case ph77 => (conv => rhs; whnf)))) (by refine (?pf78 : (x : Scope) → x = fScope (nth tops 16) → Scope) ?px78 ?ph78; (case pf78 => exact fun x _ => x); (case ph78 => (conv => rhs; whnf))) 3 [] Value.none Value.none Value.none (Value.str (Str.ofString "law_nb0223_01") 600) none (Value.ref 246) Value.none 0)) #[])) ::
  ((nat_lit 248), (Obj.mk (Value.type "tuple") none (Data.seq #[] 0) #[])) ::
  ((nat_lit 251), (Obj.mk (Value.type "code") none (Data.fields #[(Value.str (Str.ofString "_law_bag") 634), (Value.str (Str.ofString "_law_bag") 635), (Value.str (Str.ofString "/claim/cut.py") 636), (Value.int 133 0), (Value.int 1 0), (Value.int 0 0), (Value.int 0 0), (Value.int 3 0), (Value.ref 248), (Value.bool true), (Value.int 276 0), (Value.ref 249), Value.none, Value.none, Value.none, (Value.ref 250), (Value.int 637 0), (Value.int 133 0), (Value.str (Str.ofString "/claim/cut.py") 638)]) #[])) ::
  ((nat_lit 252), (Obj.mk (Value.type "function") none (Data.func (FuncData.mk (Str.ofString "_law_bag") (Str.ofString "_law_bag") (by refine (?pf79 : (x : Arguments) → x = fArgs (nth tops 17) → Arguments) ?px79 ?ph79; (case pf79 => exact fun x _ => x); (case ph79 => (conv => rhs; whnf))) (FuncBody.stmts (by refine (?pf80 : (x : (List Stmt)) → x = fBody (nth tops 17) → (List Stmt)) ?px80 ?ph80; (case pf80 => exact fun x _ => x); (case ph80 => (conv => rhs; whnf)))) (by refine (?pf81 : (x : Scope) → x = fScope (nth tops 17) → Scope) ?px81 ?ph81; (case pf81 => exact fun x _ => x); (case ph81 => (conv => rhs; whnf))) 3 [] Value.none Value.none Value.none (Value.str (Str.ofString "law_nb0223_01") 600) none (Value.ref 251) Value.none 0)) #[])) ::
  ((nat_lit 253), (Obj.mk (Value.type "tuple") none (Data.seq #[] 0) #[])) ::
  ((nat_lit 256), (Obj.mk (Value.type "code") none (Data.fields #[(Value.str (Str.ofString "_law_places") 640), (Value.str (Str.ofString "_law_places") 641), (Value.str (Str.ofString "/claim/cut.py") 642), (Value.int 139 0), (Value.int 1 0), (Value.int 0 0), (Value.int 0 0), (Value.int 3 0), (Value.ref 253), (Value.bool true), (Value.int 276 0), (Value.ref 254), Value.none, Value.none, Value.none, (Value.ref 255), (Value.int 643 0), (Value.int 139 0), (Value.str (Str.ofString "/claim/cut.py") 644)]) #[])) ::
  ((nat_lit 257), (Obj.mk (Value.type "function") none (Data.func (FuncData.mk (Str.ofString "_law_places") (Str.ofString "_law_places") (by refine (?pf82 : (x : Arguments) → x = fArgs (nth tops 18) → Arguments) ?px82 ?ph82; (case pf82 => exact fun x _ => x); (case ph82 => (conv => rhs; whnf))) (FuncBody.stmts (by refine (?pf83 : (x : (List Stmt)) → x = fBody (nth tops 18) → (List Stmt)) ?px83 ?ph83; (case pf83 => exact fun x _ => x); (case ph83 => (conv => rhs; whnf)))) (by refine (?pf84 : (x : Scope) → x = fScope (nth tops 18) → Scope) ?px84 ?ph84; (case pf84 => exact fun x _ => x); (case ph84 => (conv => rhs; whnf))) 3 [] Value.none Value.none Value.none (Value.str (Str.ofString "law_nb0223_01") 600) none (Value.ref 256) Value.none 0)) #[])) ::
  ((nat_lit 258), (Obj.mk (Value.type "tuple") none (Data.seq #[] 0) #[])) ::
  ((nat_lit 260), (Obj.mk (Value.type "tuple") none (Data.seq #[(Value.str (Str.ofString "names") 649), (Value.str (Str.ofString "places") 650), (Value.str (Str.ofString "rings") 651), (Value.str (Str.ofString "seen") 652), (Value.str (Str.ofString "start") 653), (Value.str (Str.ofString "ring") 654), (Value.str (Str.ofString "at") 655)] 0) #[])) ::
  ((nat_lit 261), (Obj.mk (Value.type "tuple") none (Data.seq #[] 0) #[])) ::
  ((nat_lit 263), (Obj.mk (Value.type "code") none (Data.fields #[(Value.str (Str.ofString "_law_rings") 646), (Value.str (Str.ofString "_law_rings") 647), (Value.str (Str.ofString "/claim/cut.py") 648), (Value.int 144 0), (Value.int 2 0), (Value.int 0 0), (Value.int 0 0), (Value.int 3 0), (Value.ref 258), (Value.bool true), (Value.int 276 0), (Value.ref 259), Value.none, (Value.ref 260), (Value.ref 261), (Value.ref 262), (Value.int 656 0), (Value.int 144 0), (Value.str (Str.ofString "/claim/cut.py") 657)]) #[])) ::
  ((nat_lit 264), (Obj.mk (Value.type "function") none (Data.func (FuncData.mk (Str.ofString "_law_rings") (Str.ofString "_law_rings") (by refine (?pf85 : (x : Arguments) → x = fArgs (nth tops 19) → Arguments) ?px85 ?ph85; (case pf85 => exact fun x _ => x); (case ph85 => (conv => rhs; whnf))) (FuncBody.stmts (by refine (?pf86 : (x : (List Stmt)) → x = fBody (nth tops 19) → (List Stmt)) ?px86 ?ph86; (case pf86 => exact fun x _ => x); (case ph86 => (conv => rhs; whnf)))) (by refine (?pf87 : (x : Scope) → x = fScope (nth tops 19) → Scope) ?px87 ?ph87; (case pf87 => exact fun x _ => x); (case ph87 => (conv => rhs; whnf))) 3 [] Value.none Value.none Value.none (Value.str (Str.ofString "law_nb0223_01") 600) none (Value.ref 263) Value.none 0)) #[])) ::
  ((nat_lit 265), (Obj.mk (Value.type "tuple") none (Data.seq #[] 0) #[])) ::
  ((nat_lit 268), (Obj.mk (Value.type "code") none (Data.fields #[(Value.str (Str.ofString "_law_laid") 659), (Value.str (Str.ofString "_law_laid") 660), (Value.str (Str.ofString "/claim/cut.py") 661), (Value.int 155 0), (Value.int 2 0), (Value.int 0 0), (Value.int 0 0), (Value.int 3 0), (Value.ref 265), (Value.bool true), (Value.int 276 0), (Value.ref 266), Value.none, Value.none, Value.none, (Value.ref 267), (Value.int 662 0), (Value.int 155 0), (Value.str (Str.ofString "/claim/cut.py") 663)]) #[])) ::
  ((nat_lit 269), (Obj.mk (Value.type "function") none (Data.func (FuncData.mk (Str.ofString "_law_laid") (Str.ofString "_law_laid") (by refine (?pf88 : (x : Arguments) → x = fArgs (nth tops 20) → Arguments) ?px88 ?ph88; (case pf88 => exact fun x _ => x); (case ph88 => (conv => rhs; whnf))) (FuncBody.stmts (by refine (?pf89 : (x : (List Stmt)) → x = fBody (nth tops 20) → (List Stmt)) ?px89 ?ph89; (case pf89 => exact fun x _ => x); (case ph89 => (conv => rhs; whnf)))) (by refine (?pf90 : (x : Scope) → x = fScope (nth tops 20) → Scope) ?px90 ?ph90; (case pf90 => exact fun x _ => x); (case ph90 => (conv => rhs; whnf))) 3 [] Value.none Value.none Value.none (Value.str (Str.ofString "law_nb0223_01") 600) none (Value.ref 268) Value.none 0)) #[])) ::
  ((nat_lit 270), (Obj.mk (Value.type "tuple") none (Data.seq #[] 0) #[])) ::
  ((nat_lit 273), (Obj.mk (Value.type "code") none (Data.fields #[(Value.str (Str.ofString "_law_rows") 665), (Value.str (Str.ofString "_law_rows") 666), (Value.str (Str.ofString "/claim/cut.py") 667), (Value.int 158 0), (Value.int 2 0), (Value.int 0 0), (Value.int 0 0), (Value.int 3 0), (Value.ref 270), (Value.bool true), (Value.int 276 0), (Value.ref 271), Value.none, Value.none, Value.none, (Value.ref 272), (Value.int 668 0), (Value.int 158 0), (Value.str (Str.ofString "/claim/cut.py") 669)]) #[])) ::
  ((nat_lit 274), (Obj.mk (Value.type "function") none (Data.func (FuncData.mk (Str.ofString "_law_rows") (Str.ofString "_law_rows") (by refine (?pf91 : (x : Arguments) → x = fArgs (nth tops 21) → Arguments) ?px91 ?ph91; (case pf91 => exact fun x _ => x); (case ph91 => (conv => rhs; whnf))) (FuncBody.stmts (by refine (?pf92 : (x : (List Stmt)) → x = fBody (nth tops 21) → (List Stmt)) ?px92 ?ph92; (case pf92 => exact fun x _ => x); (case ph92 => (conv => rhs; whnf)))) (by refine (?pf93 : (x : Scope) → x = fScope (nth tops 21) → Scope) ?px93 ?ph93; (case pf93 => exact fun x _ => x); (case ph93 => (conv => rhs; whnf))) 3 [] Value.none Value.none Value.none (Value.str (Str.ofString "law_nb0223_01") 600) none (Value.ref 273) Value.none 0)) #[])) ::
  ((nat_lit 275), (Obj.mk (Value.type "tuple") none (Data.seq #[] 0) #[])) ::
  ((nat_lit 278), (Obj.mk (Value.type "code") none (Data.fields #[(Value.str (Str.ofString "law") 671), (Value.str (Str.ofString "law") 672), (Value.str (Str.ofString "/claim/cut.py") 673), (Value.int 167 0), (Value.int 1 0), (Value.int 0 0), (Value.int 0 0), (Value.int 3 0), (Value.ref 275), (Value.bool true), (Value.int 276 0), (Value.ref 276), Value.none, Value.none, Value.none, (Value.ref 277), (Value.int 674 0), (Value.int 167 0), (Value.str (Str.ofString "/claim/cut.py") 675)]) #[])) ::
  ((nat_lit 279), (Obj.mk (Value.type "function") none (Data.func (FuncData.mk (Str.ofString "law") (Str.ofString "law") (by refine (?pf94 : (x : Arguments) → x = fArgs (nth tops 22) → Arguments) ?px94 ?ph94; (case pf94 => exact fun x _ => x); (case ph94 => (conv => rhs; whnf))) (FuncBody.stmts (by refine (?pf95 : (x : (List Stmt)) → x = fBody (nth tops 22) → (List Stmt)) ?px95 ?ph95; (case pf95 => exact fun x _ => x); (case ph95 => (conv => rhs; whnf)))) (by refine (?pf96 : (x : Scope) → x = fScope (nth tops 22) → Scope) ?px96 ?ph96; (case pf96 => exact fun x _ => x); (case ph96 => (conv => rhs; whnf))) 3 [] Value.none Value.none Value.none (Value.str (Str.ofString "law_nb0223_01") 600) none (Value.ref 278) Value.none 0)) #[])) :: []
noncomputable def hd1.view_39 : Program := { Challenge.rw_nb0223_01.row.toRowW.prog with main := { Challenge.rw_nb0223_01.row.toRowW.prog.main with body := [(nth tops 0), (nth tops 1), (nth tops 3), (nth tops 4), (nth tops 5), (nth tops 7), (nth tops 9), (nth tops 10), (nth tops 11), (nth tops 13), (nth tops 14), (nth tops 15), (nth tops 16), (nth tops 17), (nth tops 18), (nth tops 19), (nth tops 20), (nth tops 21), (nth tops 22)] } }
set_option maxRecDepth 1000000 in
theorem said1 : OpenLaw.wellSaid Challenge.rw_nb0223_01 = true := by
  first
  | exact (congrFun PySem.W.Fast.te9446332074065402090 _).trans (by kernel_rfl)
  | kernel_rfl
set_option maxRecDepth 1000000 in
/-- the top's run; the library's own quick twins of its functions, where they stand -/
theorem run1 : LeftO Challenge.rw_nb0223_01.row.prog hd1.view_39 [Str.ofString "tspecials", Str.ofString "_name_disallowed_re", Str.ofString "_value_disallowed_re", Str.ofString "_formatparam"] (fun s => xlAt hd1.view_39 [] s && recOk (RowW.records Challenge.rw_nb0223_01.row.toRowW) s) (Hook.obs (kmHook hd1.heap_39 [2, 3, 32, 34, 35, 37, 38, 42, 43, 47, 48, 52, 53, 54, 55, 57, 58, 60, 61, 69, 70, 72, 73, 75, 76, 77, 79, 80, 82, 83, 84, 86, 87, 89, 90, 91, 93, 94, 96, 97, 98, 101, 102, 103, 105, 106, 108, 109, 110, 112, 113, 115, 116, 117, 120, 121, 122, 123, 125, 126, 128, 129, 130, 133, 134, 135, 138, 139, 140, 142, 143, 145, 146, 147, 149, 150, 152, 153, 154, 157, 158, 159, 161, 162, 164, 165, 166, 168, 169, 171, 172, 173, 175, 176, 178, 179, 180, 181, 182, 183, 184, 187, 189, 190, 192, 193, 194, 196, 197, 199, 200, 208, 210, 211, 213, 214, 215, 216, 217, 218, 219, 222, 224, 225, 227, 228, 229, 231, 232, 234, 235, 236, 239, 240, 241, 243, 244, 246, 247, 248, 251, 252, 253, 256, 257, 258, 260, 261, 263, 264, 265, 268, 269, 270, 273, 274, 275, 278, 279] (fun _ => by kernel_rfl) [230])) (Hook.val (kmHook hd1.heap_39 [2, 3, 32, 34, 35, 37, 38, 42, 43, 47, 48, 52, 53, 54, 55, 57, 58, 60, 61, 69, 70, 72, 73, 75, 76, 77, 79, 80, 82, 83, 84, 86, 87, 89, 90, 91, 93, 94, 96, 97, 98, 101, 102, 103, 105, 106, 108, 109, 110, 112, 113, 115, 116, 117, 120, 121, 122, 123, 125, 126, 128, 129, 130, 133, 134, 135, 138, 139, 140, 142, 143, 145, 146, 147, 149, 150, 152, 153, 154, 157, 158, 159, 161, 162, 164, 165, 166, 168, 169, 171, 172, 173, 175, 176, 178, 179, 180, 181, 182, 183, 184, 187, 189, 190, 192, 193, 194, 196, 197, 199, 200, 208, 210, 211, 213, 214, 215, 216, 217, 218, 219, 222, 224, 225, 227, 228, 229, 231, 232, 234, 235, 236, 239, 240, 241, 243, 244, 246, 247, 248, 251, 252, 253, 256, 257, 258, 260, 261, 263, 264, 265, 268, 269, 270, 273, 274, 275, 278, 279] (fun _ => by kernel_rfl) [230])) 3334 := fun w => by
  unfold openEnds fencedOpening topFrom
  (try rw [PySem.W.Fast.te10274390034422433532])
  (try rw [PySem.W.Fast.te14082659384304107361])
  (try rw [PySem.W.Fast.te14289696077712309145])
  (try rw [PySem.W.Fast.te4187177175401517315])
  (try rw [PySem.W.Fast.te14364793385576792824])
  kernel_rfl
set_option maxRecDepth 1000000 in
theorem hd1 (walk : WalkO hd1.view_39 [Str.ofString "tspecials", Str.ofString "_name_disallowed_re", Str.ofString "_value_disallowed_re", Str.ofString "_formatparam"] (XL hd1.view_39 []) (kmHook hd1.heap_39 [2, 3, 32, 34, 35, 37, 38, 42, 43, 47, 48, 52, 53, 54, 55, 57, 58, 60, 61, 69, 70, 72, 73, 75, 76, 77, 79, 80, 82, 83, 84, 86, 87, 89, 90, 91, 93, 94, 96, 97, 98, 101, 102, 103, 105, 106, 108, 109, 110, 112, 113, 115, 116, 117, 120, 121, 122, 123, 125, 126, 128, 129, 130, 133, 134, 135, 138, 139, 140, 142, 143, 145, 146, 147, 149, 150, 152, 153, 154, 157, 158, 159, 161, 162, 164, 165, 166, 168, 169, 171, 172, 173, 175, 176, 178, 179, 180, 181, 182, 183, 184, 187, 189, 190, 192, 193, 194, 196, 197, 199, 200, 208, 210, 211, 213, 214, 215, 216, 217, 218, 219, 222, 224, 225, 227, 228, 229, 231, 232, 234, 235, 236, 239, 240, 241, 243, 244, 246, 247, 248, 251, 252, 253, 256, 257, 258, 260, 261, 263, 264, 265, 268, 269, 270, 273, 274, 275, 278, 279] (fun _ => by kernel_rfl) [230]).says Challenge.rw_nb0223_01.row.toRowW { name := Str.ofString "law", params := (by refine (?pf116 : (x : Arguments) → x = fArgs (nth tops 22) → Arguments) ?px116 ?ph116; (case pf116 => exact fun x _ => x); (case ph116 => (conv => rhs; whnf))), body := (by refine (?pf117 : (x : (List Stmt)) → x = fBody (nth tops 22) → (List Stmt)) ?px117 ?ph117; (case pf117 => exact fun x _ => x); (case ph117 => (conv => rhs; whnf))), scope := (by refine (?pf118 : (x : Scope) → x = fScope (nth tops 22) → Scope) ?px118 ?ph118; (case pf118 => exact fun x _ => x); (case ph118 => (conv => rhs; whnf))), pos := (by refine (?pf119 : (x : Pos) → x = fPos (nth tops 22) → Pos) ?px119 ?ph119; (case pf119 => exact fun x _ => x); (case ph119 => (conv => rhs; whnf))) } [] (fun f vs => call f vs)) : Challenge.rw_nb0223_01.Holds := by
  w_on
  refine holds_law said1 fun said => ?_
  refine holds_open (q := hd1.view_39) (loose := [Str.ofString "tspecials", Str.ofString "_name_disallowed_re", Str.ofString "_value_disallowed_re", Str.ofString "_formatparam"]) (Xt := fun s => xlAt hd1.view_39 [] s && recOk (RowW.records Challenge.rw_nb0223_01.row.toRowW) s) (XP := XL hd1.view_39 []) (Yf := Hook.obs (kmHook hd1.heap_39 [2, 3, 32, 34, 35, 37, 38, 42, 43, 47, 48, 52, 53, 54, 55, 57, 58, 60, 61, 69, 70, 72, 73, 75, 76, 77, 79, 80, 82, 83, 84, 86, 87, 89, 90, 91, 93, 94, 96, 97, 98, 101, 102, 103, 105, 106, 108, 109, 110, 112, 113, 115, 116, 117, 120, 121, 122, 123, 125, 126, 128, 129, 130, 133, 134, 135, 138, 139, 140, 142, 143, 145, 146, 147, 149, 150, 152, 153, 154, 157, 158, 159, 161, 162, 164, 165, 166, 168, 169, 171, 172, 173, 175, 176, 178, 179, 180, 181, 182, 183, 184, 187, 189, 190, 192, 193, 194, 196, 197, 199, 200, 208, 210, 211, 213, 214, 215, 216, 217, 218, 219, 222, 224, 225, 227, 228, 229, 231, 232, 234, 235, 236, 239, 240, 241, 243, 244, 246, 247, 248, 251, 252, 253, 256, 257, 258, 260, 261, 263, 264, 265, 268, 269, 270, 273, 274, 275, 278, 279] (fun _ => by kernel_rfl) [230])) (Ya := Hook.val (kmHook hd1.heap_39 [2, 3, 32, 34, 35, 37, 38, 42, 43, 47, 48, 52, 53, 54, 55, 57, 58, 60, 61, 69, 70, 72, 73, 75, 76, 77, 79, 80, 82, 83, 84, 86, 87, 89, 90, 91, 93, 94, 96, 97, 98, 101, 102, 103, 105, 106, 108, 109, 110, 112, 113, 115, 116, 117, 120, 121, 122, 123, 125, 126, 128, 129, 130, 133, 134, 135, 138, 139, 140, 142, 143, 145, 146, 147, 149, 150, 152, 153, 154, 157, 158, 159, 161, 162, 164, 165, 166, 168, 169, 171, 172, 173, 175, 176, 178, 179, 180, 181, 182, 183, 184, 187, 189, 190, 192, 193, 194, 196, 197, 199, 200, 208, 210, 211, 213, 214, 215, 216, 217, 218, 219, 222, 224, 225, 227, 228, 229, 231, 232, 234, 235, 236, 239, 240, 241, 243, 244, 246, 247, 248, 251, 252, 253, 256, 257, 258, 260, 261, 263, 264, 265, 268, 269, 270, 273, 274, 275, 278, 279] (fun _ => by kernel_rfl) [230])) (YP := Hook.says (kmHook hd1.heap_39 [2, 3, 32, 34, 35, 37, 38, 42, 43, 47, 48, 52, 53, 54, 55, 57, 58, 60, 61, 69, 70, 72, 73, 75, 76, 77, 79, 80, 82, 83, 84, 86, 87, 89, 90, 91, 93, 94, 96, 97, 98, 101, 102, 103, 105, 106, 108, 109, 110, 112, 113, 115, 116, 117, 120, 121, 122, 123, 125, 126, 128, 129, 130, 133, 134, 135, 138, 139, 140, 142, 143, 145, 146, 147, 149, 150, 152, 153, 154, 157, 158, 159, 161, 162, 164, 165, 166, 168, 169, 171, 172, 173, 175, 176, 178, 179, 180, 181, 182, 183, 184, 187, 189, 190, 192, 193, 194, 196, 197, 199, 200, 208, 210, 211, 213, 214, 215, 216, 217, 218, 219, 222, 224, 225, 227, 228, 229, 231, 232, 234, 235, 236, 239, 240, 241, 243, 244, 246, 247, 248, 251, 252, 253, 256, 257, 258, 260, 261, 263, 264, 265, 268, 269, 270, 273, 274, 275, 278, 279] (fun _ => by kernel_rfl) [230])) (N := 3334) ?hl (Hook.of _) (Hook.keeps _) (fun s e => xl_of s (Bool.and_eq_true_iff.mp e).1) XL.keeps (by rfl) (by rfl) (by rfl) (fun s e => recFacts_of (Bool.and_eq_true_iff.mp e).2) (by rfl) (by first | assumption | decide +kernel) (by decide +kernel) ⟨rfl, rfl, rfl, rfl, rfl, by decide +kernel⟩ ?hw ?hc
  case hl => exact run1
  case hw => w_witness2
  case hc => exact walk
end Mine
end

section
open PySem PySem.W PyProof.Rows
namespace Mine
noncomputable abbrev P1 : Program := Challenge.rw_nb0223_01.row.prog
noncomputable abbrev K1 (w : World) : Frag := hd1.heap_39 w.params
noncomputable abbrev loose1 : List Str :=
  (looseW hd1.view_39 [Str.ofString "tspecials", Str.ofString "_name_disallowed_re", Str.ofString "_value_disallowed_re", Str.ofString "_formatparam"] ++
        List.map (fun x => x.name) (recsOf hd1.view_39) ++
      List.map (fun x => x.fst) (litsOf hd1.view_39) ++
    List.map (fun x => x.name)
      (clssOf hd1.view_39 (looseW hd1.view_39 [Str.ofString "tspecials", Str.ofString "_name_disallowed_re", Str.ofString "_value_disallowed_re", Str.ofString "_formatparam"])))
/-- a call's contract, in the caller's frame -/
def Tell1 (w : World) (mean : ExcName → Option Value) (mg mb : Str → Option Value) (D U : Nat) (news : List (Addr × Obj)) (f : Value) (vs : List Value) (kw : List (Str × Value)) (Post : Value → List (Addr × Obj) → Prop) : Prop :=
  ∀ (dp un : Nat) (gd : Option (List Code)) (cn : Str) (cs : Scope) (a : Addr) (ccd : Value) (cl : List (Str × Addr)) (outer : List Env) (A₀ : Around) (base h₀ : Heap) (L : Addr) (m : Str → Option Value) (s : Shared) (Q E : Value → Shared → Prop),
    Below A₀ base outer h₀ → Fr h₀ L s.heap m → (hd1.heap_39 w.params).In h₀ → News h₀ L s.heap news → Top topProg loose1 mean mg mb h₀ → cs.kind = .function →
    dp + D < recursionLimit → un + U < cLine →
    (∀ r news' h' tk', Fr h₀ L h' m → News h₀ L h' news' → Post r news' → Q r { s with heap := h', toks := tk' }) →
    wpAny (model Challenge.rw_nb0223_01.row.prog w) (ktrTop dp un gd cn cs L a ccd cl outer) (call f vs kw) Q E s
end Mine
end

section
open PySem PySem.W PyProof.Rows PySem.Calls
set_option linter.unusedVariables false
set_option maxRecDepth 100000
set_option maxHeartbeats 8000000
namespace Mine
section
local macro_rules | `(tactic| walk_at "my enter") => `(tactic| (k_dflt (refine' code_raw ?k1 ?k2 ?k6 ?k7 ?k8 ?k9 ?kB ?_ ?c2 ?c3 ?c4 ?c5; (case k1 => assumption); (case k2 => assumption); (case k6 => k_is); (case k7 => k_is); (case k8 => ktr_room); (case k9 => exact BindsTo.of_eq rfl); (case c5 => decide); (case kB => exact locs rfl); (case c2 => exact rfl); (case c3 => exact rfl); (case c4 => exact rfl); k_whole)))
local macro_rules | `(tactic| walk_at "subscriptTail") => `(tactic| ((with_reducible show wpAny _ _ (subscriptTail _ (Expr.Slice _ _ none _) (Value.bytes _ _) (Value.ref _)) _ _ _); refine halt ?_))
local macro_rules | `(tactic| walk_at "call builtin:len") => `(tactic| ((with_reducible show wpAny _ _ (call (Value.builtin "len") [Value.bytes (List.toArray _) _]) _ _ _); refine len_b (by first | omega | (simp only [List.length_take, List.length_drop]; omega)) ?_))
local macro_rules | `(tactic| walk_at "truthy bytes") => `(tactic| ((with_reducible show wpAny _ _ (truthy (Value.bytes (List.toArray _) _)) _ _ _); refine truthy_b (by first | omega | (simp only [List.length_take, List.length_drop]; omega)) ?_))

-- L1b
abbrev G1 (w : World) (mean : ExcName → Option Value) (mg mb : Str → Option Value) (h₀ : Heap) : Prop := Gd (hd1.heap_39 w.params) topProg loose1 mean mg mb h₀
/-- the dict of a stream: what is left of it, and how it is read -/
abbrev stD (w : World) (t1 t2 t3 : Tok) (b : Array UInt8) (f : Addr) : Obj :=
  dictOf [⟨PyData.keyHash w.params (Str.ofString "value"), .str (Str.ofString "value") t1, .bytes b t2⟩, ⟨PyData.keyHash w.params (Str.ofString "read"), .str (Str.ofString "read") t3,   .ref f⟩] 2
section
variable {w : World} {mean : ExcName → Option Value} {mg mb : Str → Option Value} {h₀ : Heap} {dp un : Nat} {fr : Option (List Env)} {gd : Option (List Code)} {s : Shared} {Q E : Value → Shared → Prop}
theorem take_tells {st dx f : Addr} {t1 t2 t3 tn : Tok} {b : List UInt8} {z : Int} {c : Nat} (G : G1 w mean mg mb h₀) (hs : Sub h₀ s.heap) (hd : dp + 3 < recursionLimit) (hu : un + 30 < cLine)
    (hst : s.heap.get? st = some (instObj 217 dx)) (hdx : s.heap.get? dx = some (stD w t1 t2 t3 b.toArray f)) (f1 : h₀.get? st = none) (f2 : h₀.get? dx = none) (hz : z = (c : Int)) (hb : b.length ≤ 10000)
    (k : ∀ h' tk t t2', Ext [dx] s.heap h' → h'.get? dx = some (stD w t1 t2' t3 (b.drop c).toArray f) → Q (.bytes (b.take c).toArray t) { s with heap := h', toks := tk }) :
    wpAny (model Challenge.rw_nb0223_01.row.prog w) (Ar dp un fr gd) (call (.ref 228) [.ref st, .int z tn]) Q E s := by
  have X0 := G.K
  revert X0 G
  k_fill
  intro G X0
  have I : In0 h₀ s.heap [(st, instObj 217 dx), (dx, stD w t1 t2 t3 b.toArray f)] := ⟨hs, by simp [hst, hdx, f1, f2]⟩
  have hne : @Ne Nat dx st := by rintro rfl; rw [hst] at hdx; cases hdx
  refine wpAny_call ?_
  walk_at "my enter"
  intro g L' h₁ hg hg0 hL F N X T
  dsimp only
  k_fold
  k_steps
  refine Halt.out ?_
  refine bsl_to (s := ⟨_, _, _, _, _⟩) F N hz (by omega) ?_
  intro h1 t1' k1 F1 N1
  clear F N
  k_steps
  refine Halt.out ?_
  (rename Fr _ _ _ _ => F2); (rename News _ _ _ _ => N2)
  refine bsl_from (s := ⟨_, _, _, _, _⟩) F2 N2 rfl (by omega) ?_
  intro h3 t3' k3 F3 N3
  clear F2 N2
  have e3 : b.drop (b.take c).length = b.drop c := by
    rw [List.length_take]
    rcases Nat.le_total c b.length with h | h
    · rw [Nat.min_eq_left h]
    · rw [Nat.min_eq_right h, List.drop_of_length_le (Nat.le_refl _), List.drop_of_length_le h]
  rw [e3]
  k_steps
  (rename Fr _ _ _ _ => F4); (rename News _ _ _ _ => N4)
  refine k _ _ _ t3' ?_ (N4.get (by k_mem))
  refine Ext.drop (Fr.tells F4 hg) fun o e => ?_
  rw [hst] at e; cases e
  exact N4.get (by k_mem)
end

-- L1d
theorem nCons {g h : Heap} {L : Addr} {p : Addr × Obj} {news : List (Addr × Obj)} (hp : h.get? p.1 = some p.2 ∧ p.1 ≠ L ∧ g.get? p.1 = none) (N : News g L h news) : News g L h (p :: news) := fun q hq => (List.mem_cons.mp hq).elim (fun e => e ▸ hp) (N q)
section
variable {w : World} {mean : ExcName → Option Value} {mg mb : Str → Option Value} {h₀ : Heap} {dp un : Nat} {fr : Option (List Env)} {gd : Option (List Code)} {s : Shared} {Q E : Value → Shared → Prop}

def RdBy (w : World) (mean : ExcName → Option Value) (mg mb : Str → Option Value) (h₀ : Heap) (im : List (Addr × Obj)) (dx f : Addr) : Prop :=
  ∀ (dp un : Nat) (fr : Option (List Env)) (gd : Option (List Code)) (s : Shared) (Q E : Value → Shared → Prop) (b : List UInt8) (t1 t2 t3 tn : Tok) (z : Int) (c : Nat),
    Sub h₀ s.heap → dp + 4 < recursionLimit → un + 50 < cLine → (∀ p ∈ im, s.heap.get? p.1 = some p.2) → s.heap.get? dx = some (stD w t1 t2 t3 b.toArray f) → z = (c : Int) → b.length ≤ 10000 →
    (∀ h' tk t t2', Ext [dx] s.heap h' → h'.get? dx = some (stD w t1 t2' t3 (b.drop c).toArray f) → Q (.bytes (b.take c).toArray t) { s with heap := h', toks := tk }) →
    wpAny (model Challenge.rw_nb0223_01.row.prog w) (Ar dp un fr gd) (call (.ref f) [.int z tn]) Q E s
/-- a stream: what is left of it -/
structure Stm (w : World) (mean : ExcName → Option Value) (mg mb : Str → Option Value) (h₀ : Heap) (im : List (Addr × Obj)) (st dx f : Addr) (h : Heap) (b : List UInt8) : Prop where
  inst : (st, instObj 217 dx) ∈ im
  ims : ∀ p ∈ im, h.get? p.1 = some p.2 ∧ h₀.get? p.1 = none ∧ p.1 ≠ dx
  dxn : h₀.get? dx = none
  dct : ∃ t1 t2 t3, h.get? dx = some (stD w t1 t2 t3 b.toArray f)
  rd : RdBy w mean mg mb h₀ im dx f
  fn : ∀ h : Heap, (∀ p ∈ im, h.get? p.1 = some p.2) → FnAt f h
theorem Stm.move {im : List (Addr × Obj)} {st dx f : Addr} {h h' : Heap} {b b' : List UInt8} {t1 t2 t3 : Tok} (S : Stm w mean mg mb h₀ im st dx f h b) (x : Ext [dx] h h') (hd : h'.get? dx = some (stD w t1 t2 t3 b'.toArray f)) : Stm w mean mg mb h₀ im st dx f h' b' :=
  ⟨S.inst, fun p hp => ⟨x.keep _ _ (by simp only [List.mem_singleton]; exact (S.ims p hp).2.2) (S.ims p hp).1, (S.ims p hp).2⟩, S.dxn, ⟨t1, t2, t3, hd⟩, S.rd, S.fn⟩
theorem Stm.imAt {im : List (Addr × Obj)} {st dx f : Addr} {h h' : Heap} {b : List UInt8} (S : Stm w mean mg mb h₀ im st dx f h b) (hk : ∀ b o, b ≠ st → b ≠ dx → h.get? b = some o → h'.get? b = some o) (hs : h'.get? st = some (instObj 217 dx)) :
    ∀ p ∈ im, h'.get? p.1 = some p.2 := fun p hp => by
  by_cases q : p.1 = st
  · have e1 := (S.ims p hp).1
    have e2 := (S.ims _ S.inst).1
    rw [q] at e1 ⊢
    rw [e1] at e2
    rw [hs, e2]
  · exact hk _ _ q (S.ims p hp).2.2 (S.ims p hp).1
theorem Stm.inFr {im : List (Addr × Obj)} {st dx f L : Addr} {h h' g : Heap} {m : Str → Option Value} {b b' : List UInt8} {t1 t2 t3 : Tok} (S : Stm w mean mg mb h₀ im st dx f h b) (hg : ∀ b o, b ∉ [st, dx] → h.get? b = some o → g.get? b = some o)
    (F : Fr g L h' m) (n1 : h'.get? st = some (instObj 217 dx)) (n2 : h'.get? dx = some (stD w t1 t2 t3 b'.toArray f)) : Stm w mean mg mb h₀ im st dx f h' b' :=
  ⟨S.inst, fun p hp => ⟨S.imAt (fun b o n1 n2 e => F.keep _ _ (hg _ _ (by simpa using ⟨n1, n2⟩) e)) n1 p hp, (S.ims p hp).2⟩, S.dxn, ⟨t1, t2, t3, n2⟩, S.rd, S.fn⟩
theorem Stm.stay {im : List (Addr × Obj)} {st dx f : Addr} {h h' : Heap} {b : List UInt8} (S : Stm w mean mg mb h₀ im st dx f h b) (x : Sub h h') : Stm w mean mg mb h₀ im st dx f h' b :=
  let ⟨t1, t2, t3, e⟩ := S.dct; S.move x.ext (x.get e)
/-- the code of the lambda, once it is made -/
def TabOk (q : Str) (h₀ h : Heap) (l c : Nat) : Prop := h.get? 230 = some (tabObj #[]) ∨
  ∃ c' oc vs t, h.get? 230 = some (tabObj (#[] ++ #[rawInt l, rawInt c, .ref c'])) ∧ h.get? c' = some oc ∧ oc.data = .fields vs ∧ vs[1]? = some (.str q t) ∧ h₀.get? c' = none
theorem tab_fin {g h : Heap} {L x dx f' c' cl : Addr} {o1 oc o' : Obj} {vs : Array Value} {t : Tok} {l c : Nat} {r : List (Addr × Obj)} {q : Str} {od : Obj} (N : News g L h ((f', o1) :: (c', oc) :: (x, instObj 217 dx) :: (dx, od) :: (cl, o') :: (230, tabObj (#[] ++ #[rawInt l, rawInt c, .ref c'])) :: r))
    (hg : Sub h₀ g) (d1 : oc.data = .fields vs) (d2 : vs[1]? = some (.str q t)) : TabOk q h₀ h l c :=
  .inr ⟨c', oc, vs, t, (N (230, _) (by simp)).1, (N (c', oc) (by simp)).1, d1, d2, get_none_sub (fun b o e => hg.get e) (N (c', oc) (by simp)).2.2⟩
theorem stm_fin {g h : Heap} {L x dx f' c' cl : Addr} {fd : FuncData} {oc o' : Obj} {t1 t2 t3 : Tok} {b : List UInt8} {r : List (Addr × Obj)} (N : News g L h ((f', ({ cls := .type "function", data := .func fd } : Obj)) :: (c', oc) :: (x, instObj 217 dx) :: (dx, stD w t1 t2 t3 b.toArray f') :: (cl, o') :: r))
    (hg : Sub h₀ g) (n1 : f' ≠ dx) (n2 : c' ≠ dx) (n3 : x ≠ dx) (n4 : cl ≠ dx) (rd : RdBy w mean mg mb h₀ [(f', ({ cls := .type "function", data := .func fd } : Obj)), (c', oc), (x, instObj 217 dx), (cl, o')] dx f') :
    Stm w mean mg mb h₀ [(f', ({ cls := .type "function", data := .func fd } : Obj)), (c', oc), (x, instObj 217 dx), (cl, o')] x dx f' h b := by
  have z : ∀ p ∈ ((f', ({ cls := .type "function", data := .func fd } : Obj)) :: (c', oc) :: (x, instObj 217 dx) :: (dx, stD w t1 t2 t3 b.toArray f') :: (cl, o') :: r), h₀.get? p.1 = none := fun p hp => get_none_sub (fun b o e => hg.get e) (N p hp).2.2
  refine ⟨by simp, ?_, z (dx, _) (.tail _ (.tail _ (.tail _ (.head _)))), ⟨t1, t2, t3, (N _ (.tail _ (.tail _ (.tail _ (.head _))))).1⟩, rd, fun h hh => ⟨_, _, _, _, hh _ (.head _)⟩⟩
  refine List.forall_mem_cons.mpr ⟨?_, List.forall_mem_cons.mpr ⟨?_, List.forall_mem_cons.mpr ⟨?_, List.forall_mem_cons.mpr ⟨?_, fun _ hp => nomatch hp⟩⟩⟩⟩
  · exact ⟨(N _ (by simp)).1, z _ (by simp), n1⟩
  · exact ⟨(N _ (by simp)).1, z _ (by simp), n2⟩
  · exact ⟨(N _ (by simp)).1, z _ (by simp), n3⟩
  · exact ⟨(N _ (by simp)).1, z _ (by simp), n4⟩
theorem stream_tells {b : List UInt8} {t : Tok} (G : G1 w mean mg mb h₀) (hs : Sub h₀ s.heap) (hd : dp + 4 < recursionLimit) (hu : un + 40 < cLine) (hb : b.length ≤ 10000)
    (hT : s.heap.get? 230 = some (tabObj #[])) (f0 : h₀.get? 230 = none) (hC : CodeHd h₀ 234 230)
    (k : ∀ h' tk im st dx f, Ext [230] s.heap h' → Stm w mean mg mb h₀ im st dx f h' b → s.heap.get? dx = none → (∀ p ∈ im, s.heap.get? p.1 = none) → TabOk (Str.ofString "_law_stream.<locals>.<lambda>") h₀ h' 124 18 → Q (.ref st) { s with heap := h', toks := tk }) :
    wpAny (model Challenge.rw_nb0223_01.row.prog w) (Ar dp un fr gd) (call (.ref 235) [.bytes b.toArray t]) Q E s := by
  have X0 := G.K
  revert X0 G
  k_fill
  intro G X0
  have I : In0 h₀ s.heap [(230, tabObj #[])] := ⟨hs, by simp [hT, f0]⟩
  refine wpAny_call ?_
  k_dflt (refine' code_rawC ?k1 ?k2 ?k6 ?k7 ?k8 ?k9 ?kB ?kD ?_ ?c2 ?c3 ?c4; (case k1 => assumption); (case k2 => assumption); (case k6 => k_is); (case k7 => k_is); (case k8 => ktr_room); (case k9 => exact BindsTo.of_eq rfl); (case kB => exact rfl); (case kD => decide +kernel); (case c2 => exact rfl); (case c3 => exact rfl); (case c4 => exact rfl); k_whole)
  intro g L' h₁ tk1 cells hg hg0 hL F N Y X T l1
  k_lt l1; k_cells Y
  simp only [List.cons_append, List.nil_append] at N
  (try dsimp only); (try k_unmd); k_fold
  k_steps
  k_dflt (refine' call_cls ?k1 ?k2 ?k3 ?k4 ?k5 ?k6 ?_; (case k1 => k_asm); (case k2 => k_asm); (case k3 => k_asm); (case k4 => k_is); (case k5 => k_is); (case k6 => k_is); k_whole)
  intro x dx h2 F2 N2 l2 l3
  k_lt l2; k_lt2 l3
  have I2 : In0 h₀ h2 ((x, instObj 217 dx) :: (dx, dictOf [] 0) :: [(L' + 1, _), (230, tabObj #[])]) := ⟨hg0.trans' (Sub.of F2.keep), fun p hp => ⟨(N2 p hp).1, get_none_sub (fun b o e => hg0.get e) (N2 p hp).2.2⟩⟩
  k_dflt (refine' code_raw ?k1 ?k2 ?k6 ?k7 ?k8 ?k9 ?kB ?_ ?c2 ?c3 ?c4 ?c5; (case k1 => assumption); (case k2 => exact I2); (case k6 => k_is); (case k7 => k_is); (case k8 => ktr_room); (case k9 => exact BindsTo.of_eq rfl); (case c5 => decide); (case kB => exact locs rfl); (case c2 => exact rfl); (case c3 => exact rfl); (case c4 => exact rfl); k_whole)
  intro g3 L3 h3 hg3 hg03 hL3 F3 N3 X3 T3
  (try dsimp only); (try k_unmd); k_fold
  k_steps
  (rename Fr g3 _ _ _ => F4); (rename News g3 _ _ _ => N4)
  obtain ⟨F5, N5⟩ := back F2 N2 hg3 F4 N4
  clear F4 N4 F2 N2 X3 T3
  dsimp only [InitBack]
  refine ⟨rfl, ?_⟩
  have hCg : CodeHd g 234 230 := hC.keeps (fun b o e => hg0.get e)
  k_steps
  (rename Fr g _ _ _ => F6); (rename News g _ _ _ => N6)
  have fz : ∀ a, g.get? a = none → @Ne Nat a 230 → s.heap.get? a = none := fun a e n => by
    cases q : s.heap.get? a with
    | none => rfl
    | some o => rw [hg a o (by simpa using n) q] at e; cases e
  (rename _ = Data.fields _ => dF); (rename _ = some (Value.str _ _) => dQ)
  refine k _ _ _ _ _ _ (Fr.tells F6 hg) (stm_fin N6 hg0 ?_ ?_ ?_ ?_ ?_) ?_ ?_ ?_
  · show @Ne Nat _ _; omega
  · show @Ne Nat _ _; omega
  · show @Ne Nat _ _; omega
  · show @Ne Nat _ _; omega
  · unfold RdBy
    clear hs hd hu hb k
    intro dp un fr gd s Q E b t1 t2 t3 tn z c hs hd hu him hdx hz hb k
    simp only [List.forall_mem_cons] at him
    obtain ⟨i1, i2, i3, i4, -⟩ := him
    have z1 : h₀.get? x = none := get_none_sub (fun b o e => hg0.get e) (N6 (x, _) (by k_mem)).2.2
    have z2 : h₀.get? dx = none := get_none_sub (fun b o e => hg0.get e) (N6 (dx, _) (by k_mem)).2.2
    have I3 : In0 h₀ s.heap [(L' + 1, _), (dx, stD w t1 t2 t3 b.toArray _)] := ⟨hs, by
      refine List.forall_mem_cons.mpr ⟨?_, List.forall_mem_cons.mpr ⟨?_, fun _ hp => nomatch hp⟩⟩
      · exact ⟨i4, get_none_sub (fun b o e => hg0.get e) (N6 (L' + 1, _) (by k_mem)).2.2⟩
      · exact ⟨hdx, z2⟩⟩
    have nx : @Ne Nat (L' + 1) dx := by omega
    clear F6 N6 hg X T fz hg0 hCg
    refine wpAny_call ?_
    k_dflt (refine' code_rawL G I3 i1 ⟨_, _, _, _, rfl, i2, dF, dQ⟩ ?k8 rfl (locs rfl) ?_ rfl rfl rfl ?c5; (case k8 => ktr_room); (case c5 => decide))
    intro g L h1 hg hg0 hL F N X T
    (try dsimp only); (try k_unmd); (try k_fold)
    k_steps
    have hx1 : h1.get? x = some (instObj 217 dx) := F.keep _ _ (hg _ _ (by
      simp only [List.map, List.mem_cons, List.not_mem_nil, or_false, not_or]
      exact ⟨show @Ne Nat _ _ by omega, show @Ne Nat _ _ by omega⟩) i3)
    refine take_tells G (hg0.trans' (Sub.of F.keep)) ?_ ?_ hx1 (N (dx, _) (by k_mem)).1 z1 z2 hz hb ?_
    · show dp + 1 + 3 < _; omega
    · show un + 3 + 30 < _; omega
    · intro h' tk t t2' hx' hd'
      refine k h' tk t t2' (Ext.trans (Ext.drop (Fr.tells F hg) fun o e => ?_) hx') hd'
      have e' : s.heap.get? (L' + 1) = some o := e
      rw [i4] at e'; cases e'
      exact (N (L' + 1, _) (by k_mem)).1
  · exact fz _ (N6 (dx, _) (by k_mem)).2.2 (by omega)
  · refine List.forall_mem_cons.mpr ⟨?_, List.forall_mem_cons.mpr ⟨?_, List.forall_mem_cons.mpr ⟨?_, List.forall_mem_cons.mpr ⟨?_, fun _ hp => nomatch hp⟩⟩⟩⟩
    · exact fz _ (N6 _ (by k_mem)).2.2 (by dsimp only; omega)
    · exact fz _ (N6 _ (by k_mem)).2.2 (by dsimp only; omega)
    · exact fz _ (N6 _ (by k_mem)).2.2 (by dsimp only; omega)
    · exact fz _ (N6 _ (by k_mem)).2.2 (by dsimp only; omega)
  · exact tab_fin N6 hg0 dF dQ
end

-- L1e
section
variable {w : World} {mean : ExcName → Option Value} {mg mb : Str → Option Value} {h₀ : Heap} {dp un : Nat} {fr : Option (List Env)} {gd : Option (List Code)} {s : Shared} {Q E : Value → Shared → Prop}
theorem permN {g h : Heap} {L : Addr} {e1 e2 e3 e4 e5 e6 : Addr × Obj} (N : News g L h [e1, e2, e3, e4, e5, e6]) : News g L h [e1, e6, e2, e3, e4, e5] := (by (repeat refine nCons (N _ (by k_mem)) ?_); first | exact (fun p hp => absurd hp List.not_mem_nil) | exact fun p hp => N p (by repeat (first | exact hp | refine List.Mem.tail _ ?_)))
theorem stream_hit {b : List UInt8} {t : Tok} {c' : Addr} {oc : Obj} {vsq : Array Value} {tq : Tok} (G : G1 w mean mg mb h₀) (hs : Sub h₀ s.heap) (hd : dp + 4 < recursionLimit) (hu : un + 40 < cLine) (hb : b.length ≤ 10000)
    (hT : s.heap.get? 230 = some (tabObj (#[] ++ #[rawInt (124 : Nat), rawInt (18 : Nat), .ref c']))) (hc' : s.heap.get? c' = some oc) (fc : h₀.get? c' = none) (dF : oc.data = .fields vsq) (dQ : vsq[1]? = some (.str (Str.ofString "_law_stream.<locals>.<lambda>") tq)) (f0 : h₀.get? 230 = none) (hC : CodeHd h₀ 234 230)
    (k : ∀ h' tk im st dx f, Ext [230] s.heap h' → Stm w mean mg mb h₀ im st dx f h' b → s.heap.get? dx = none → (∀ p ∈ im, p.1 = c' ∨ s.heap.get? p.1 = none) → TabOk (Str.ofString "_law_stream.<locals>.<lambda>") h₀ h' 124 18 → Q (.ref st) { s with heap := h', toks := tk }) :
    wpAny (model Challenge.rw_nb0223_01.row.prog w) (Ar dp un fr gd) (call (.ref 235) [.bytes b.toArray t]) Q E s := by
  have X0 := G.K
  revert X0 G
  k_fill
  intro G X0
  have hc230 : @Ne Nat 230 c' := by rintro rfl; rw [hT] at hc'; cases hc'; cases dF; simp [rawInt] at dQ
  have I : In0 h₀ s.heap [(230, tabObj (#[] ++ #[rawInt (124 : Nat), rawInt (18 : Nat), .ref c'])), (c', oc)] := ⟨hs, by
    refine List.forall_mem_cons.mpr ⟨?_, List.forall_mem_cons.mpr ⟨?_, fun _ hp => nomatch hp⟩⟩
    · exact ⟨hT, f0⟩
    · exact ⟨hc', fc⟩⟩
  refine wpAny_call ?_
  k_dflt (refine' code_rawC ?k1 ?k2 ?k6 ?k7 ?k8 ?k9 ?kB ?kD ?_ ?c2 ?c3 ?c4; (case k1 => assumption); (case k2 => assumption); (case k6 => k_is); (case k7 => k_is); (case k8 => ktr_room); (case k9 => exact BindsTo.of_eq rfl); (case kB => exact rfl); (case kD => decide +kernel); (case c2 => exact rfl); (case c3 => exact rfl); (case c4 => exact rfl); k_whole)
  intro g L' h₁ tk1 cells hg hg0 hL F N Y X T l1
  k_lt l1; k_cells Y
  simp only [List.cons_append, List.nil_append] at N
  (try dsimp only); (try k_unmd); k_fold
  k_steps
  k_dflt (refine' call_cls ?k1 ?k2 ?k3 ?k4 ?k5 ?k6 ?_; (case k1 => k_asm); (case k2 => k_asm); (case k3 => k_asm); (case k4 => k_is); (case k5 => k_is); (case k6 => k_is); k_whole)
  intro x dx h2 F2 N2 l2 l3
  k_lt l2; k_lt2 l3
  have I2 : In0 h₀ h2 ((x, instObj 217 dx) :: (dx, dictOf [] 0) :: [(L' + 1, _), (230, _), (c', oc)]) := ⟨hg0.trans' (Sub.of F2.keep), fun p hp => ⟨(N2 p hp).1, get_none_sub (fun b o e => hg0.get e) (N2 p hp).2.2⟩⟩
  k_dflt (refine' code_raw ?k1 ?k2 ?k6 ?k7 ?k8 ?k9 ?kB ?_ ?c2 ?c3 ?c4 ?c5; (case k1 => assumption); (case k2 => exact I2); (case k6 => k_is); (case k7 => k_is); (case k8 => ktr_room); (case k9 => exact BindsTo.of_eq rfl); (case c5 => decide); (case kB => exact locs rfl); (case c2 => exact rfl); (case c3 => exact rfl); (case c4 => exact rfl); k_whole)
  intro g3 L3 h3 hg3 hg03 hL3 F3 N3 X3 T3
  (try dsimp only); (try k_unmd); k_fold
  k_steps
  (rename Fr g3 _ _ _ => F4); (rename News g3 _ _ _ => N4)
  obtain ⟨F5, N5⟩ := back F2 N2 hg3 F4 N4
  clear F4 N4 F2 N2 X3 T3
  dsimp only [InitBack]
  refine ⟨rfl, ?_⟩
  have hCg : CodeHd g 234 230 := hC.keeps (fun b o e => hg0.get e)
  k_steps
  (rename Fr g _ _ _ => F6); (rename News g _ _ _ => N6)
  replace N6 := permN N6
  have fz : ∀ a, g.get? a = none → @Ne Nat a 230 → @Ne Nat a c' → s.heap.get? a = none := fun a e n n' => by
    cases q : s.heap.get? a with
    | none => rfl
    | some o => rw [hg a o (by simpa using ⟨n, n'⟩) q] at e; cases e
  have hX : Ext [230] s.heap _ := Ext.less (Fr.tells F6 hg) (by
    intro b hb nb o e
    have hb' : b = c' := by simpa [show b ≠ 230 by simpa using nb] using hb
    subst hb'
    rw [hc'] at e; cases e
    exact (N6 (b, _) (by k_mem)).1)
  refine k _ _ _ _ _ _ hX (stm_fin N6 hg0 ?_ ?_ ?_ ?_ ?_) ?_ ?_ ?_
  · show @Ne Nat _ _; omega
  · show @Ne Nat _ _; omega
  · show @Ne Nat _ _; omega
  · show @Ne Nat _ _; omega
  · unfold RdBy
    clear hs hd hu hb k
    intro dp un fr gd s Q E b t1 t2 t3 tn z c hs hd hu him hdx hz hb k
    simp only [List.forall_mem_cons] at him
    obtain ⟨i1, i2, i3, i4, -⟩ := him
    have z1 : h₀.get? x = none := get_none_sub (fun b o e => hg0.get e) (N6 (x, _) (by k_mem)).2.2
    have z2 : h₀.get? dx = none := get_none_sub (fun b o e => hg0.get e) (N6 (dx, _) (by k_mem)).2.2
    have I3 : In0 h₀ s.heap [(L' + 1, _), (dx, stD w t1 t2 t3 b.toArray _)] := ⟨hs, by
      refine List.forall_mem_cons.mpr ⟨?_, List.forall_mem_cons.mpr ⟨?_, fun _ hp => nomatch hp⟩⟩
      · exact ⟨i4, get_none_sub (fun b o e => hg0.get e) (N6 (L' + 1, _) (by k_mem)).2.2⟩
      · exact ⟨hdx, z2⟩⟩
    have nx : @Ne Nat (L' + 1) dx := by omega
    clear F6 N6 hg X T fz hg0 hCg
    refine wpAny_call ?_
    k_dflt (refine' code_rawL G I3 i1 ⟨_, _, _, _, rfl, i2, dF, dQ⟩ ?k8 rfl (locs rfl) ?_ rfl rfl rfl ?c5; (case k8 => ktr_room); (case c5 => decide))
    intro g L h1 hg hg0 hL F N X T
    (try dsimp only); (try k_unmd); (try k_fold)
    k_steps
    have hx1 : h1.get? x = some (instObj 217 dx) := F.keep _ _ (hg _ _ (by
      simp only [List.map, List.mem_cons, List.not_mem_nil, or_false, not_or]
      exact ⟨show @Ne Nat _ _ by omega, show @Ne Nat _ _ by omega⟩) i3)
    refine take_tells G (hg0.trans' (Sub.of F.keep)) ?_ ?_ hx1 (N (dx, _) (by k_mem)).1 z1 z2 hz hb ?_
    · show dp + 1 + 3 < _; omega
    · show un + 3 + 30 < _; omega
    · intro h' tk t t2' hx' hd'
      refine k h' tk t t2' (Ext.trans (Ext.drop (Fr.tells F hg) fun o e => ?_) hx') hd'
      have e' : s.heap.get? (L' + 1) = some o := e
      rw [i4] at e'; cases e'
      exact (N (L' + 1, _) (by k_mem)).1
  · exact fz _ (N6 (dx, _) (by k_mem)).2.2 (by omega) (by omega)
  · refine List.forall_mem_cons.mpr ⟨?_, List.forall_mem_cons.mpr ⟨?_, List.forall_mem_cons.mpr ⟨?_, List.forall_mem_cons.mpr ⟨?_, fun _ hp => nomatch hp⟩⟩⟩⟩
    · exact .inr (fz _ (N6 _ (by k_mem)).2.2 (by dsimp only; omega) (by dsimp only; omega))
    · exact .inl rfl
    · exact .inr (fz _ (N6 _ (by k_mem)).2.2 (by dsimp only; omega) (by dsimp only; omega))
    · exact .inr (fz _ (N6 _ (by k_mem)).2.2 (by dsimp only; omega) (by dsimp only; omega))
  · exact tab_fin N6 hg0 dF dQ
theorem stream_ok {b : List UInt8} {t : Tok} (G : G1 w mean mg mb h₀) (hs : Sub h₀ s.heap) (hd : dp + 4 < recursionLimit) (hu : un + 40 < cLine) (hb : b.length ≤ 10000)
    (hT : TabOk (Str.ofString "_law_stream.<locals>.<lambda>") h₀ s.heap 124 18) (f0 : h₀.get? 230 = none) (hC : CodeHd h₀ 234 230)
    (k : ∀ h' tk im st dx f, Ext [230] s.heap h' → Stm w mean mg mb h₀ im st dx f h' b → s.heap.get? dx = none → s.heap.get? st = none → (∀ p ∈ im, p.1 ≠ 230 ∧ (s.heap.get? p.1 = none ∨ ∃ vs, p.2.data = .fields vs)) → TabOk (Str.ofString "_law_stream.<locals>.<lambda>") h₀ h' 124 18 → Q (.ref st) { s with heap := h', toks := tk }) :
    wpAny (model Challenge.rw_nb0223_01.row.prog w) (Ar dp un fr gd) (call (.ref 235) [.bytes b.toArray t]) Q E s := by
  rcases hT with hT | ⟨c', oc, vs, tq, hT, hc, dF, dQ, fc⟩
  · exact stream_tells G hs hd hu hb hT f0 hC fun h' tk im st dx f x S n1 n2 T => k h' tk im st dx f x S n1 (n2 _ S.inst) (fun p hp => ⟨(fun e => (by have := n2 p hp; rw [e, hT] at this; cases this)), .inl (n2 p hp)⟩) T
  · have hc230 : c' ≠ 230 := by rintro rfl; rw [hT] at hc; cases hc; cases dF; simp [rawInt] at dQ
    refine stream_hit G hs hd hu hb hT hc fc dF dQ f0 hC fun h' tk im st dx f x S n1 n2 T => k h' tk im st dx f x S n1 ?_ (fun p hp => ⟨fun e => ?_, ?_⟩) T
    · rcases n2 _ S.inst with h | h
      · exfalso
        have e1 := (S.ims _ S.inst).1
        have e2 := x.keep c' oc (by simpa using hc230) hc
        dsimp only at h e1
        rw [h, e2] at e1
        cases e1; cases dF
      · exact h
    · rcases n2 p hp with h | h
      · exact hc230 (h.symm.trans e)
      · rw [e, hT] at h; cases h
    · rcases n2 p hp with h | h
      · have e1 := (S.ims p hp).1
        rw [h, x.keep c' oc (by simpa using hc230) hc] at e1
        cases e1
        exact .inr ⟨_, dF⟩
      · exact .inl h
end

end

section
local macro_rules | `(tactic| walk_at "my enter") => `(tactic| (k_dflt (refine' code_raw ?k1 ?k2 ?k6 ?k7 ?k8 ?k9 ?kB ?_ ?c2 ?c3 ?c4 ?c5; (case k1 => assumption); (case k2 => assumption); (case k6 => k_is); (case k7 => k_is); (case k8 => ktr_room); (case k9 => exact BindsTo.of_eq rfl); (case c5 => decide); (case kB => exact locs rfl); (case c2 => exact rfl); (case c3 => exact rfl); (case c4 => exact rfl); k_whole)))
local macro_rules | `(tactic| walk_at "eval ListComp") => `(tactic| (refine halt ?_))
local macro_rules | `(tactic| walk_at "eval Name") => `(tactic| ((with_reducible show wpAny _ _ (eval (Expr.Name _ _) (compEnvC _ _ _ _)) _ _ _); k_dflt (first
  | (refine' nLocal ?hn ?hv ?_ ?a ?b; (case a => rfl); (case b => rfl); (case hn => k_asm); (case hv => k_asm); k_whole)
  | (refine' nGlob ?G ?S ?e ?_ ?g ?a ?b; (case a => rfl); (case b => rfl); (case g => rfl); (case G => assumption); (case S => assumption); (case e => k_is); k_whole)
  | (refine' nBuilt ?G ?S ?e ?v ?n ?_ ?g ?h ?a ?b; (case a => rfl); (case b => rfl); (case g => rfl); (case h => rfl); (case G => assumption); (case S => assumption); (case e => k_is); (case v => boot_fast); (case n => decide); k_whole))))

-- L1a
def itemB (x : Str) : Array UInt8 := byteArr ((x.length : Int) :: x.cps.toList.map Int.ofNat)
section
variable {w : World} {mean : ExcName → Option Value} {mg mb : Str → Option Value} {h₀ : Heap} {dp un : Nat} {fr : Option (List Env)} {gd : Option (List Code)} {s : Shared} {Q E : Value → Shared → Prop}
theorem item_tells {x : Str} {t : Tok} (G : G1 w mean mg mb h₀) (hs : Sub h₀ s.heap) (hd : dp + 3 < recursionLimit) (hu : un + 30 < cLine) (hx : ∀ c ∈ x.cps.toList, c < 256) (hn : x.length < 256)
    (k : ∀ h' tk tk', Sub s.heap h' → Q (.bytes (itemB x) tk') { s with heap := h', toks := tk }) :
    wpAny (model Challenge.rw_nb0223_01.row.prog w) (Ar dp un fr gd) (call (.ref 240) [.str x t]) Q E s := by
  have X0 := G.K
  revert X0 G
  k_fill
  intro G X0
  have I : In0 h₀ s.heap [] := ⟨hs, by simp⟩
  refine wpAny_call ?_
  walk_at "my enter"
  intro g L' h₁ hg hg0 hL F N X T
  dsimp only
  k_fold
  k_steps
  refine Halt.out ?_
  (rename Fr _ _ _ _ => F1); (rename News _ _ _ _ => N1)
  k_dflt (refine comp1S (cl := []) (fun i ys => IntsAre ys ((x.cps.toList.take i).map Int.ofNat)) rfl rfl (by decide) rfl (by decide) rfl (by simpa using IntsAre.nil) ?_)
  walk1
  have hz : x.cps.size < 256 := hn
  refine Halt.out ⟨_, _, _, Src.str x t, Nat.le_trans (Nat.le_of_lt hz) (by decide), by simp, ?_, ?_⟩
  · rintro i v ys s₃ C m₃ E' hi ⟨c, u, hc, rfl⟩ hR hmv hext hns hm hlen
    refine wpAny_tests_nil ?_
    simp only [if_true]
    refine ⟨Mv.refl _, Ext.refl _, ?_⟩
    have hsub : Sub h₀ s₃.heap := (hg0.trans' (Sub.of F1.keep)).trans' hext
    k_steps
    refine Halt.out ⟨⟨_, _, rfl⟩, Ext.refl _, ?_⟩
    rw [List.take_add_one]
    have : x.cps.toList[i]? = some c := by simpa using hc
    rw [this]
    simpa using IntsAre.snoc hR
  · intro D h' tk' ys e hR hlen hD hp hext
    obtain ⟨F2, N2⟩ := news_add F1 N1 hext hD hp
    clear F1 N1
    k_steps
    (rename Fr _ _ _ _ => F3); (rename News _ _ _ _ => N3); (rename IntsAre _ ([_] ++ _) => I3)
    refine call_bytes_ints (News.isList N3 (by k_mem)) I3 ?_ ?_ rfl ?_
    · intro n hm
      rcases List.mem_append.mp hm with hm | hm
      · rw [List.mem_singleton.mp hm]; omega
      · obtain ⟨c, hc, rfl⟩ := List.mem_map.mp hm
        have := hx c (List.mem_of_mem_take hc)
        exact ⟨Int.natCast_nonneg c, Int.ofNat_lt.mpr this⟩
    · rw [I3.length]; simp; exact Nat.le_trans (Nat.succ_le_of_lt hz) (by decide)
    · intro h4 t4 k4 hk4
      have e : ([(x.length : Int)] ++ List.map Int.ofNat (List.take x.cps.size x.cps.toList)) = (x.length : Int) :: x.cps.toList.map Int.ofNat := by
        rw [List.take_of_length_le (by simp)]; rfl
      rw [e]
      exact k h4 k4 t4 ((Fr.tells F3 (W := []) fun b o n e => hg b o (by simp) e).trans (Sub.of hk4))
end

end

section
local macro_rules | `(tactic| walk_at "my enter") => `(tactic| (k_dflt (refine' code_raw ?k1 ?k2 ?k6 ?k7 ?k8 ?k9 ?kB ?_ ?c2 ?c3 ?c4 ?c5; (case k1 => assumption); (case k2 => assumption); (case k6 => k_is); (case k7 => k_is); (case k8 => ktr_room); (case k9 => exact BindsTo.of_eq rfl); (case c5 => decide); (case kB => exact locs rfl); (case c2 => exact rfl); (case c3 => exact rfl); (case c4 => exact rfl); k_whole)))
local macro_rules | `(tactic| walk_at "subscriptTail") => `(tactic| ((with_reducible show wpAny _ _ (subscriptTail _ (Expr.Slice _ _ none _) (Value.bytes _ _) (Value.ref _)) _ _ _); refine halt ?_))
local macro_rules | `(tactic| walk_at "subscriptTail") => `(tactic| ((with_reducible show wpAny _ _ (subscriptTail _ _ (Value.bytes (List.toArray _) _) (Value.int _ _)) _ _ _); refine halt ?_))
local macro_rules | `(tactic| walk_at "call ref") => `(tactic| (refine halt ?_))
local macro_rules | `(tactic| walk_at "ite") => `(tactic| first | (refine PySem.W.ite_pos (by first | rfl | omega | ((simp only [decide_eq_true_eq, beq_iff_eq]); (first | done | omega))) ?_) | (refine PySem.W.ite_neg (by first | omega | ((simp only [decide_eq_true_eq, beq_iff_eq]); (first | done | omega))) ?_))
local macro_rules | `(tactic| walk_at "call builtin:list.append") => `(tactic| (refine halt ?_))
local macro_rules | `(tactic| walk_at "exec While") => `(tactic| (refine halt ?_))
local macro_rules | `(tactic| walk_at "eval ListComp") => `(tactic| (refine halt ?_))
local macro_rules | `(tactic| walk_at "call builtin:len") => `(tactic| ((with_reducible show wpAny _ _ (call (Value.builtin "len") [Value.bytes (List.toArray _) _]) _ _ _); refine len_b (by first | omega | (simp only [List.length_take, List.length_drop]; omega) | (simp only [List.length_cons, List.length_nil]; omega)) ?_))
local macro_rules | `(tactic| walk_at "truthy bytes") => `(tactic| ((with_reducible show wpAny _ _ (truthy (Value.bytes (List.toArray _) _)) _ _ _); refine truthy_b (by first | omega | (simp only [List.length_take, List.length_drop]; omega) | (simp only [List.length_cons, List.length_nil]; omega)) ?_))
local macro_rules | `(tactic| walk_at "truthy bytes") => `(tactic| ((with_reducible show wpAny _ _ (truthy (Value.bytes (List.toArray (_ :: _)) _)) _ _ _); refine truthy_bc (by first | omega | (simp only [List.length_cons, List.length_nil]; omega)) ?_))

-- L1f
section
variable {w : World} {mean : ExcName → Option Value} {mg mb : Str → Option Value} {h₀ : Heap} {dp un : Nat} {fr : Option (List Env)} {gd : Option (List Code)} {s : Shared} {Q E : Value → Shared → Prop}
theorem uint_tells {im : List (Addr × Obj)} {st dx f : Addr} {b : List UInt8} {c : UInt8} (G : G1 w mean mg mb h₀) (hs : Sub h₀ s.heap) (hd : dp + 6 < recursionLimit) (hu : un + 60 < cLine) (S : Stm w mean mg mb h₀ im st dx f s.heap (c :: b)) (hb : b.length < 10000)
    (k : ∀ h' tk t, Ext [dx] s.heap h' → Stm w mean mg mb h₀ im st dx f h' b → Q (.int c.toNat t) { s with heap := h', toks := tk }) :
    wpAny (model Challenge.rw_nb0223_01.row.prog w) (Ar dp un fr gd) (call (.ref 193) [.ref st]) Q E s := by
  have X0 := G.K
  revert X0 G
  k_fill
  intro G X0
  obtain ⟨t1, t2, t3, hdx⟩ := S.dct
  have hst := (S.ims _ S.inst).1
  have I : In0 h₀ s.heap [(st, instObj 217 dx), (dx, stD w t1 t2 t3 (c :: b).toArray f)] := ⟨hs, by simp [hst, hdx, (S.ims _ S.inst).2.1, S.dxn]⟩
  refine wpAny_call ?_
  walk_at "my enter"
  intro g L' h₁ hg hg0 hL F N X T
  dsimp only
  k_fold
  k_steps
  have him : ∀ p ∈ im, h₁.get? p.1 = some p.2 := S.imAt (fun b o n1 n2 e => F.keep _ _ (hg _ _ (by simpa using ⟨n1, n2⟩) e)) (N (st, _) (by k_mem)).1
  have hfn : FnAt f h₁ := S.fn h₁ him
  refine callWith_FH hfn ?_
  k_steps
  refine Halt.out ⟨hfn, ?_⟩
  refine S.rd _ _ _ _ _ _ _ (c :: b) t1 t2 t3 _ _ 1 (hg0.trans' (Sub.of F.keep)) ?_ ?_ him (N (dx, _) (by k_mem)).1 rfl (by simp; omega) ?_
  · show dp + 1 + 4 < _; omega
  · show un + 3 + 50 < _; omega
  intro h2 tk2 t' t2' hx2 hd2
  obtain ⟨F2, N2⟩ := news_two F N hx2 (S.ims _ S.inst).2.2 hd2
  clear F N
  have e1 : List.take 1 (c :: b) = [c] := rfl
  have e2 : List.drop 1 (c :: b) = b := rfl
  rw [e1]
  rw [e2] at N2 hd2
  k_steps
  refine Halt.out ?_
  (rename Fr g _ _ _ => F3); (rename News g _ _ _ => N3)
  k_dflt (refine bytes_item_K (x := [c]) (k := (c.toNat : Int)) (by simp) (by decide) (by simp) rfl ?_)
  refine k _ _ _ (Ext.drop (Fr.tells F3 hg) fun o e => ?_) ?_
  · rw [hst] at e; cases e; exact (N3 (st, _) (by k_mem)).1
  · refine S.move (Ext.drop (Fr.tells F3 hg) fun o e => ?_) (N3 (dx, _) (by k_mem)).1
    rw [hst] at e; cases e; exact (N3 (st, _) (by k_mem)).1
end

-- L1g
section
variable {w : World} {mean : ExcName → Option Value} {mg mb : Str → Option Value} {h₀ : Heap} {dp un : Nat} {fr : Option (List Env)} {gd : Option (List Code)} {s : Shared} {Q E : Value → Shared → Prop}
theorem str_tells {im : List (Addr × Obj)} {st dx f : Addr} {x b : List UInt8} {c : UInt8} (G : G1 w mean mg mb h₀) (hs : Sub h₀ s.heap) (hd : dp + 7 < recursionLimit) (hu : un + 70 < cLine) (S : Stm w mean mg mb h₀ im st dx f s.heap (c :: (x ++ b))) (hx : x.length = c.toNat) (hx2 : x.length ≤ 2) (hb : b.length < 9000)
    (k : ∀ h' tk t, Ext [dx] s.heap h' → Stm w mean mg mb h₀ im st dx f h' b → Q (.str (latin x) t) { s with heap := h', toks := tk }) :
    wpAny (model Challenge.rw_nb0223_01.row.prog w) (Ar dp un fr gd) (call (.ref 200) [.ref st]) Q E s := by
  have X0 := G.K
  revert X0 G
  k_fill
  intro G X0
  obtain ⟨t1, t2, t3, hdx⟩ := S.dct
  have hst := (S.ims _ S.inst).1
  have I : In0 h₀ s.heap [(st, instObj 217 dx), (dx, stD w t1 t2 t3 (c :: (x ++ b)).toArray f)] := ⟨hs, by simp [hst, hdx, (S.ims _ S.inst).2.1, S.dxn]⟩
  refine wpAny_call ?_
  walk_at "my enter"
  intro g L' h₁ hg hg0 hL F N X T
  dsimp only
  k_fold
  k_steps
  refine Halt.out ?_
  have S1 := S.inFr hg F (N (st, _) (by k_mem)).1 (N (dx, _) (by k_mem)).1
  refine uint_tells G (hg0.trans' (Sub.of F.keep)) ?_ ?_ S1 (by simp; omega) ?_
  · show dp + 1 + 6 < _; omega
  · show un + 3 + 60 < _; omega
  intro h2 tk2 tn hx2' S2
  rw [← hx]
  obtain ⟨u1, u2, u3, hd2⟩ := S2.dct
  obtain ⟨F2, N2⟩ := news_two F N hx2' (S.ims _ S.inst).2.2 hd2
  clear F N
  k_steps
  (rename Fr g _ _ _ => F3); (rename News g _ _ _ => N3)
  have S3 := S.inFr hg F3 (N3 (st, _) (by k_mem)).1 (N3 (dx, _) (by k_mem)).1
  have him3 := fun p hp => (S3.ims p hp).1
  have hfn := S.fn _ him3
  refine callWith_FH hfn ?_
  k_steps
  refine Halt.out ⟨hfn, ?_⟩
  refine S.rd _ _ _ _ _ _ _ (x ++ b) u1 u2 u3 _ _ x.length (hg0.trans' (Sub.of F3.keep)) ?_ ?_ him3 (N3 (dx, _) (by k_mem)).1 rfl (by simp; omega) ?_
  · show dp + 1 + 4 < _; omega
  · show un + 3 + 50 < _; omega
  intro h4 tk4 t4 t4' hx4 hd4
  rw [List.drop_left] at hd4
  rw [List.take_left]
  obtain ⟨F4, N4⟩ := news_two F3 N3 hx4 (S.ims _ S.inst).2.2 hd4
  clear F3 N3
  k_steps
  (rename Fr g _ _ _ => F5); (rename News g _ _ _ => N5)
  refine lat_decode hx2 fun t' k' => ?_
  have hE := Ext.drop (Fr.tells F5 hg) fun o e => by rw [hst] at e; cases e; exact (N5 (st, _) (by k_mem)).1
  exact k _ _ _ hE (S.move hE (N5 (dx, _) (by k_mem)).1)
end

section
local macro_rules | `(tactic| walk_at "exec For") => `(tactic| (refine halt ?_))

-- L1h
section
variable {w : World} {mean : ExcName → Option Value} {mg mb : Str → Option Value} {h₀ : Heap} {dp un : Nat} {fr : Option (List Env)} {gd : Option (List Code)} {s : Shared} {Q E : Value → Shared → Prop}
theorem TabOk.sub {q : Str} {h h' : Heap} {l c : Nat} (T : TabOk q h₀ h l c) (x : Sub h h') : TabOk q h₀ h' l c := by
  rcases T with T | ⟨c', oc, vs, t, T, hc, d1, d2, f0⟩
  · exact .inl (x.get T)
  · exact .inr ⟨c', oc, vs, t, x.get T, x.get hc, d1, d2, f0⟩
theorem TabOk.ents {q : Str} {h : Heap} {l c : Nat} (T : TabOk q h₀ h l c) :
    ∃ (tab : Obj) (ex : List (Addr × Obj)), h.get? 230 = some tab ∧ (∀ p ∈ ex, h.get? p.1 = some p.2 ∧ p.1 ≠ 230 ∧ ∃ vs, p.2.data = .fields vs) ∧ ∀ h' : Heap, h'.get? 230 = some tab → (∀ p ∈ ex, h'.get? p.1 = some p.2) → TabOk q h₀ h' l c := by
  rcases T with T | ⟨c', oc, vs, t, T, hc, d1, d2, f0⟩
  · exact ⟨_, [], T, by simp, fun h' e _ => .inl e⟩
  · have n : c' ≠ 230 := by rintro rfl; rw [T] at hc; cases hc; cases d1; simp [rawInt] at d2
    exact ⟨_, [(c', oc)], T, by simpa using ⟨hc, n, vs, d1⟩, fun h' e hx => .inr ⟨c', oc, vs, t, e, hx _ (.head _), d1, d2, f0⟩⟩
def encB (xs : List (List UInt8)) : List UInt8 := xs.flatMap fun x => x.length.toUInt8 :: x
theorem encB_len {xs : List (List UInt8)} (hx : ∀ x ∈ xs, x.length ≤ 2) : (encB xs).length ≤ 3 * xs.length := by
  induction xs with
  | nil => simp [encB]
  | cons x r ih =>
    have h1 := ih fun y hy => hx y (List.mem_cons_of_mem _ hy)
    have h2 := hx x List.mem_cons_self
    have : encB (x :: r) = x.length.toUInt8 :: (x ++ encB r) := by simp [encB]
    rw [this]; simp; omega
theorem names_tells {xs : List (List UInt8)} {t : Tok} (G : G1 w mean mg mb h₀) (hs : Sub h₀ s.heap) (hd : dp + 9 < recursionLimit) (hu : un + 90 < cLine) (hx : ∀ x ∈ xs, x.length ≤ 2) (hn : xs.length ≤ 100)
    (hT : TabOk (Str.ofString "_law_stream.<locals>.<lambda>") h₀ s.heap 124 18) (f0 : h₀.get? 230 = none) (hC : CodeHd h₀ 234 230)
    (k : ∀ h' tk l vs e, Ext [230] s.heap h' → s.heap.get? l = none → h'.get? l = some { cls := .type "list", data := .seq (List.toArray vs) e } → StrsAre vs (xs.map latin) → TabOk (Str.ofString "_law_stream.<locals>.<lambda>") h₀ h' 124 18 → Q (.ref l) { s with heap := h', toks := tk }) :
    wpAny (model Challenge.rw_nb0223_01.row.prog w) (Ar dp un fr gd) (call (.ref 247) [.bytes (encB xs).toArray t]) Q E s := by
  have X0 := G.K
  revert X0 G
  k_fill
  intro G X0
  obtain ⟨tab, ex0, hT0, -⟩ := TabOk.ents hT
  have I : In0 h₀ s.heap [(230, tab)] := ⟨hs, by simp [hT0, f0]⟩
  refine wpAny_call ?_
  walk_at "my enter"
  intro g L' h₁ hg hg0 hL F N X T
  dsimp only
  k_fold
  k_steps
  refine Halt.out ?_
  have hsub1 : Sub s.heap h₁ := Ext.drop (Fr.tells F hg) fun o e => by rw [hT0] at e; cases e; exact (N (230, _) (by k_mem)).1
  have hl0 : (encB xs).length ≤ 10000 := by have := encB_len hx; omega
  refine stream_ok G (hg0.trans' (Sub.of F.keep)) ?_ ?_ hl0 (TabOk.sub hT hsub1) f0 hC ?_
  · show dp + 1 + 4 < _; omega
  · show un + 3 + 40 < _; omega
  intro h2 tk2 im st dx f x2 S n1 n1' n2 T2
  obtain ⟨tab2, ex, e230, hex, hTb⟩ := TabOk.ents T2
  have g230 : g.get? 230 = none := (N (230, _) (by k_mem)).2.2
  obtain ⟨F2, led, N2, hled, hback⟩ := frame_add F x2 g230 (N (230, _) (by k_mem)).2.1.symm e230 (im ++ ex) (by
    intro p hp
    rcases List.mem_append.mp hp with hp | hp
    · exact ⟨(S.ims p hp).1, (n2 p hp).2⟩
    · exact ⟨(hex p hp).1, .inr (hex p hp).2.2⟩)
  obtain ⟨u1, u2, u3, hdx⟩ := S.dct
  have N3 : News g L' h2 ((st, instObj 217 dx) :: (dx, stD w u1 u2 u3 (encB xs).toArray f) :: (230, tab2) :: led) := by
    obtain ⟨oL, _, _, hLo, _⟩ := F.ns
    intro p hp
    rcases List.mem_cons.mp hp with rfl | hp
    · exact ⟨(S.ims _ S.inst).1, (ne_of_get hLo n1').symm, get_none_sub F.keep n1'⟩
    rcases List.mem_cons.mp hp with rfl | hp
    · exact ⟨hdx, (ne_of_get hLo n1).symm, get_none_sub F.keep n1⟩
    · exact N2 p hp
  clear F N N2
  k_steps
  refine Halt.out ?_
  (rename Fr g _ _ _ => F4); (rename News g _ _ _ => N4)
  rename_i l' _ l1 D' _ l2 _ _ _
  have N5 : News g L' _ ((l', { cls := .type "list", data := .seq (List.toArray []) 0 }) :: (st, instObj 217 dx) :: (dx, stD w u1 u2 u3 (encB (xs.drop 0)).toArray f) :: (230, tab2) :: led) := fun p hp => N4 p (.tail _ hp)
  refine whileM (fun n news => ∃ i vs e u1 u2 u3, n = xs.length - i ∧ i ≤ xs.length ∧ news = ((l', { cls := .type "list", data := .seq (List.toArray vs) e }) :: (st, instObj 217 dx) :: (dx, stD w u1 u2 u3 (encB (xs.drop i)).toArray f) :: (230, tab2) :: led) ∧ StrsAre vs ((xs.take i).map latin)) F4 N5 ⟨0, [], 0, u1, u2, u3, rfl, Nat.zero_le _, rfl, .nil⟩ ?_
  clear F4 N4 N5
  rintro n news h tk E' F6 N6 ⟨i, vs, e, u1', u2', u3', rfl, hi, rfl, hvs⟩
  cases hdr : xs.drop i with
  | nil =>
    rw [hdr, show encB [] = [] from rfl] at N6
    change Fr g L' _ _ at F6; change News g L' _ _ at N6
    k_steps
    have hE : Ext [230] s.heap h := Fr.tells F6 hg
    have hi' : i = xs.length := by
      have := congrArg List.length hdr
      simp at this; omega
    subst hi'
    rw [List.take_of_length_le (Nat.le_refl _)] at hvs
    have fz : ∀ a, g.get? a = none → @Ne Nat a 230 → s.heap.get? a = none := fun a e n => by
      cases q : s.heap.get? a with
      | none => rfl
      | some o => rw [hg a o (by simpa using n) q] at e; cases e
    refine k _ _ l' vs e hE (fz _ (N6 (l', _) (by k_mem)).2.2 (by omega)) (N6 (l', _) (by k_mem)).1 hvs ?_
    have hb := hback h (fun p hp => (N6 p (.tail _ (.tail _ (.tail _ (.tail _ hp))))).1) F6.keep
    exact hTb h (N6 (230, _) (by k_mem)).1 fun p hp => hb p (List.mem_append_right _ hp)
  | cons x r =>
    rw [hdr] at N6
    have e1 : encB (x :: r) = x.length.toUInt8 :: (x ++ encB r) := by simp [encB]
    rw [e1] at N6
    change Fr g L' _ _ at F6; change News g L' _ _ at N6
    have hlr : (x.length.toUInt8 :: (x ++ encB r)).length ≤ 10000 := by
      have : encB xs = encB (xs.take i) ++ encB (xs.drop i) := by rw [encB, encB, encB, ← List.flatMap_append, List.take_append_drop]
      rw [this, hdr, e1, List.length_append] at hl0
      omega
    k_steps
    refine Halt.out ?_
    have hxm : x ∈ xs := List.mem_of_mem_drop (hdr ▸ List.mem_cons_self)
    have hx2 := hx x hxm
    have hb := hback h (fun p hp => (N6 p (.tail _ (.tail _ (.tail _ (.tail _ hp))))).1) F6.keep
    have S6 : Stm w mean mg mb h₀ im st dx f h (x.length.toUInt8 :: (x ++ encB r)) := ⟨S.inst, fun p hp => ⟨hb p (List.mem_append_left _ hp), (S.ims p hp).2⟩, S.dxn, ⟨u1', u2', u3', (N6 (dx, _) (by k_mem)).1⟩, S.rd, S.fn⟩
    have hc : x.length = x.length.toUInt8.toNat := by
      rcases hxl : x.length with _ | _ | _ | n
      · rfl
      · rfl
      · rfl
      · omega
    refine str_tells G (hg0.trans' (Sub.of F6.keep)) ?_ ?_ S6 hc hx2 ?_ ?_
    · show dp + 1 + 7 < _; omega
    · show un + 3 + 70 < _; omega
    · have h1 := encB_len (xs := r) fun y hy => hx y (List.mem_of_mem_drop (hdr ▸ List.mem_cons_of_mem _ hy))
      have h2 := congrArg List.length hdr
      simp at h2; omega
    intro h7 tk7 t7 x7 S7
    obtain ⟨v1, v2, v3, hd7⟩ := S7.dct
    obtain ⟨F7, N7⟩ := news_ext (news' := (l', { cls := .type "list", data := .seq (List.toArray vs) e }) :: (st, instObj 217 dx) :: (dx, stD w v1 v2 v3 (encB r).toArray f) :: (230, tab2) :: led) F6 N6 (by k_mem) x7 hd7 (by
      refine List.forall_mem_cons.mpr ⟨?_, List.forall_mem_cons.mpr ⟨?_, List.forall_mem_cons.mpr ⟨?_, List.forall_mem_cons.mpr ⟨?_, fun p hp => ?_⟩⟩⟩⟩
      · exact .inr ⟨by k_mem, show @Ne Nat _ _ by omega⟩
      · exact .inr ⟨by k_mem, (S.ims _ S.inst).2.2⟩
      · exact .inl rfl
      · exact .inr ⟨by k_mem, fun q => by rw [← q] at n1; exact nomatch (show (none : Option Obj) = some tab from n1.symm.trans (hsub1.get hT0))⟩
      · refine .inr ⟨by repeat (first | exact hp | refine List.Mem.tail _ ?_), ?_⟩
        rcases List.mem_append.mp (hled p hp) with hp | hp
        · exact (S.ims p hp).2.2
        · intro q
          obtain ⟨e1, -, vs', e2⟩ := hex p hp
          rw [q, hdx] at e1
          rw [← Option.some.inj e1] at e2; cases e2)
    clear F6 N6
    k_steps
    refine Halt.out ?_
    (rename Fr g _ _ _ => F8); (rename News g _ _ _ => N8)
    refine append_N F8 N8 ?_ ?_ ?_
    · refine List.forall_mem_cons.mpr ⟨?_, List.forall_mem_cons.mpr ⟨?_, List.forall_mem_cons.mpr ⟨?_, fun p hp => ?_⟩⟩⟩
      · show @Ne Nat _ _; omega
      · show @Ne Nat _ _; omega
      · show @Ne Nat _ _; omega
      · exact Nat.ne_of_lt (allLt_mem l1.2.2.2 p hp)
    · rw [List.size_toArray, hvs.length]; simp; exact Nat.le_trans (Nat.le_trans (Nat.min_le_right _ _) hn) (by decide)
    intro h9 e9 F9 N9
    clear F8 N8
    k_steps
    refine Halt.out ⟨rfl, xs.length - (i + 1), _, _, _, ?_, rfl, F9, N9, i + 1, vs ++ [.str (latin x) t7], e9, v1, v2, v3, rfl, ?_, ?_, ?_⟩
    · have h2 := congrArg List.length hdr
      simp at h2; omega
    · have h2 := congrArg List.length hdr
      simp at h2; omega
    · have : xs.drop (i + 1) = r := by rw [← List.drop_drop, hdr]; rfl
      rw [this]; simp
    · have : xs.take (i + 1) = xs.take i ++ [x] := by
        rw [List.take_add_one]
        have : xs[i]? = some x := by
          have := congrArg (fun l => l[0]?) hdr
          simpa using this
        rw [this]; rfl
      rw [this, List.map_append]
      exact StrsAre.append' hvs (.cons _ _ .nil)
end

section
local macro_rules | `(tactic| walk_at "my enterC") => `(tactic| (k_dflt (refine' code_rawC ?k1 ?k2 ?k6 ?k7 ?k8 ?k9 ?kB ?kD ?_ ?c2 ?c3 ?c4; (case k1 => assumption); (case k2 => assumption); (case k6 => k_is); (case k7 => k_is); (case k8 => ktr_room); (case k9 => exact BindsTo.of_eq rfl); (case kB => exact rfl); (case kD => decide +kernel); (case c2 => exact rfl); (case c3 => exact rfl); (case c4 => exact rfl); k_whole)))
local macro_rules | `(tactic| walk_at "eval Name") => `(tactic| ((with_reducible show wpAny _ _ (eval (Expr.Name _ _) (envOfC _ _ _ _ _)) _ _ _); k_dflt (refine' nameX_L ?F ?v ?_ ?a ?b; (case F => k_asm); (case a => rfl); (case b => rfl); (case v => first | assumption | (rw [if_neg (by decide)]; assumption) | exact if_pos rfl); k_whole)))
local macro_rules | `(tactic| walk_at "eval Name") => `(tactic| ((with_reducible show wpAny _ _ (eval (Expr.Name _ _) (compEnvC _ _ _ _)) _ _ _); k_dflt (first
  | (refine' nLocal ?hn ?hv ?_ ?a ?b; (case a => rfl); (case b => rfl); (case hn => k_asm); (case hv => k_asm); k_whole)
  | (refine' nFree ?hc ?ho ?hd ?_ ?a ?b; (case a => rfl); (case b => rfl); (case hc => rfl); (case ho => assumption); (case hd => assumption); k_whole)
  | (refine' nGlob ?G ?S ?e ?_ ?g ?a ?b; (case a => rfl); (case b => rfl); (case g => rfl); (case G => assumption); (case S => assumption); (case e => k_is); k_whole)
  | (refine' nBuilt ?G ?S ?e ?v ?n ?_ ?g ?h ?a ?b; (case a => rfl); (case b => rfl); (case g => rfl); (case h => rfl); (case G => assumption); (case S => assumption); (case e => k_is); (case v => boot_fast); (case n => decide); k_whole))))
local macro_rules | `(tactic| walk_at "storeName") => `(tactic| ((with_reducible show wpAny _ _ (storeName (envOfC _ _ _ _ _) _ _) _ _ _); first | (k_dflt (refine' storeX_L ?F ?N ?_ ?a ?b; (case F => k_asm); (case N => k_asm); (case a => rfl); (case b => rfl); k_whole; intro h' F' N'; (try k_sweep))) | refine halt ?_))
local macro_rules | `(tactic| walk_at "call type:range") => `(tactic| (refine halt ?_))

-- L1i
-- my names: of a frame's map that is a letter
section
variable {w : World} {mean : ExcName → Option Value} {mg mb : Str → Option Value} {h₀ : Heap} {dp un : Nat} {fr : Option (List Env)} {gd : Option (List Code)} {s : Shared} {Q E : Value → Shared → Prop}
/-- a stream of rings: how many, then the items -/
def encR (rs : List (List (List UInt8))) : List UInt8 := rs.flatMap fun r => r.length.toUInt8 :: encB r
theorem paired_mono {α β : Type} {F F' : α → β → Prop} {l₁ : List α} {l₂ : List β} (h : Paired F l₁ l₂) (hf : ∀ a b, F a b → F' a b) : Paired F' l₁ l₂ := by
  induction h with
  | nil => exact .nil
  | cons h1 _ ih => exact .cons (hf _ _ h1) ih
/-- a list of lists of texts, its objects told by the ledger -/
def BagIn (inner : List (Addr × Obj)) (vs : List Value) (sss : List (List Str)) : Prop := Paired (fun v ss => ∃ a ws e, v = Value.ref a ∧ (a, ({ cls := .type "list", data := .seq (List.toArray ws) e } : Obj)) ∈ inner ∧ StrsAre ws ss) vs sss
theorem encR_len {rs : List (List (List UInt8))} (hx : ∀ r ∈ rs, r.length ≤ 9 ∧ ∀ x ∈ r, x.length ≤ 2) (hn : rs.length ≤ 9) : (encR rs).length ≤ 300 := by
  have : ∀ rs : List (List (List UInt8)), (∀ r ∈ rs, r.length ≤ 9 ∧ ∀ x ∈ r, x.length ≤ 2) → (encR rs).length ≤ 28 * rs.length := by
    intro rs
    induction rs with
    | nil => intro _; simp [encR]
    | cons r q ih =>
      intro hx
      have h1 := ih fun y hy => hx y (List.mem_cons_of_mem _ hy)
      have h2 := hx r List.mem_cons_self
      have h3 := encB_len h2.2
      have : encR (r :: q) = r.length.toUInt8 :: (encB r ++ encR q) := by simp [encR]
      rw [this]; simp; omega
  have := this rs hx; omega
theorem bag_tells {rs : List (List (List UInt8))} {t : Tok} (G : G1 w mean mg mb h₀) (hs : Sub h₀ s.heap) (hd : dp + 9 < recursionLimit) (hu : un + 90 < cLine) (hx : ∀ r ∈ rs, r.length ≤ 9 ∧ ∀ x ∈ r, x.length ≤ 2) (hn : rs.length ≤ 9)
    (hT : TabOk (Str.ofString "_law_stream.<locals>.<lambda>") h₀ s.heap 124 18) (f0 : h₀.get? 230 = none) (hC : CodeHd h₀ 234 230)
    (k : ∀ h' tk l vs e inner, Ext [230] s.heap h' → s.heap.get? l = none → h'.get? l = some { cls := .type "list", data := .seq (List.toArray vs) e } → (∀ p ∈ inner, h'.get? p.1 = some p.2 ∧ s.heap.get? p.1 = none) → BagIn inner vs (rs.map (·.map latin)) → TabOk (Str.ofString "_law_stream.<locals>.<lambda>") h₀ h' 124 18 → Q (.ref l) { s with heap := h', toks := tk }) :
    wpAny (model Challenge.rw_nb0223_01.row.prog w) (Ar dp un fr gd) (call (.ref 252) [.bytes (encR rs).toArray t]) Q E s := by
  have X0 := G.K
  revert X0 G
  k_fill
  intro G X0
  obtain ⟨tab, ex0, hT0, -⟩ := TabOk.ents hT
  have I : In0 h₀ s.heap [(230, tab)] := ⟨hs, by simp [hT0, f0]⟩
  refine wpAny_call ?_
  walk_at "my enterC"
  intro g L' h₁ tk1 cells hg hg0 hL F N Y X T l1
  k_lt l1; have hY := CellsAre.one Y; obtain ⟨oC, hE, dC⟩ := hY; subst hE; clear Y
  simp only [List.cons_append, List.nil_append] at N
  (try dsimp only); (try k_unmd); k_fold
  k_steps
  refine Halt.out ?_
  have hsub1 : Sub s.heap h₁ := Ext.drop (Fr.tells F hg) fun o e => by rw [hT0] at e; cases e; exact (N (230, _) (by k_mem)).1
  have hl0 : (encR rs).length ≤ 300 := encR_len hx hn
  refine stream_ok G (hg0.trans' (Sub.of F.keep)) ?_ ?_ (by omega) (TabOk.sub hT hsub1) f0 hC ?_
  · show dp + 1 + 4 < _; omega
  · show un + 3 + 40 < _; omega
  intro h2 tk2 im st dx f x2 S n1 n1' n2 T2
  obtain ⟨tab2, ex, e230, hex, hTb⟩ := TabOk.ents T2
  have g230 : g.get? 230 = none := (N (230, _) (by k_mem)).2.2
  obtain ⟨F2, led, N2, hled, hback⟩ := frame_add F x2 g230 (N (230, _) (by k_mem)).2.1.symm e230 (im ++ ex) (by
    intro p hp
    rcases List.mem_append.mp hp with hp | hp
    · exact ⟨(S.ims p hp).1, (n2 p hp).2⟩
    · exact ⟨(hex p hp).1, .inr (hex p hp).2.2⟩)
  obtain ⟨u1, u2, u3, hdx⟩ := S.dct
  have NC := N (L' + 1, _) (by k_mem)
  have N3 : News g L' h2 ((L' + 1, oC) :: (st, instObj 217 dx) :: (dx, stD w u1 u2 u3 (encR rs).toArray f) :: (230, tab2) :: led) := by
    obtain ⟨oL, _, _, hLo, _⟩ := F.ns
    intro p hp
    rcases List.mem_cons.mp hp with rfl | hp
    · exact ⟨x2.keep _ _ (by simpa using (show @Ne Nat (L' + 1) 230 by omega)) NC.1, NC.2⟩
    rcases List.mem_cons.mp hp with rfl | hp
    · exact ⟨(S.ims _ S.inst).1, (ne_of_get hLo n1').symm, get_none_sub F.keep n1'⟩
    rcases List.mem_cons.mp hp with rfl | hp
    · exact ⟨hdx, (ne_of_get hLo n1).symm, get_none_sub F.keep n1⟩
    · exact N2 p hp
  have dxL : @Ne Nat (L' + 1) dx := ne_of_get NC.1 n1
  have stL : @Ne Nat (L' + 1) st := ne_of_get NC.1 n1'
  have n230 : h₁.get? 230 = some tab := (N (230, _) (by k_mem)).1
  have dx230 : @Ne Nat 230 dx := ne_of_get n230 n1
  have ledL : ∀ p ∈ led, p.1 ≠ L' + 1 := by
    intro p hp q
    rcases List.mem_append.mp (hled p hp) with hp' | hp'
    · rcases (n2 p hp').2 with h | ⟨vs, h⟩
      · rw [q, NC.1] at h; cases h
      · have e1 := (S.ims p hp').1
        rw [q, x2.keep _ _ (by simpa using (show @Ne Nat (L' + 1) 230 by omega)) NC.1] at e1
        rw [← Option.some.inj e1] at h
        rw [dC] at h; cases h
    · obtain ⟨e1, -, vs, h⟩ := hex p hp'
      rw [q, x2.keep _ _ (by simpa using (show @Ne Nat (L' + 1) 230 by omega)) NC.1] at e1
      rw [← Option.some.inj e1] at h
      rw [dC] at h; cases h
  have lddx : ∀ p ∈ led, p.1 ≠ dx := by
    intro p hp
    rcases List.mem_append.mp (hled p hp) with hp | hp
    · exact (S.ims p hp).2.2
    · intro q
      obtain ⟨e1, -, vs', e2⟩ := hex p hp
      rw [q, hdx] at e1
      rw [← Option.some.inj e1] at e2; cases e2
  clear F N N2
  k_steps
  refine Halt.out ?_
  (rename Fr g _ _ _ => F4); (rename News g _ _ _ => N4)
  rename_i l' _ l1' D' _ l2' _
  k_dflt (refine storeCell F4 N4 rfl rfl rfl (show (L' + 1, oC) ∈ _ by k_mem) dC ?_)
  intro h5 oC' dC' hN5 F5
  have N5 := hN5 ((l', W.listOf #[] 0) :: (L' + 1, oC') :: (st, instObj 217 dx) :: (dx, stD w u1 u2 u3 (encR rs).toArray f) :: (230, tab2) :: led) (by
    refine List.forall_mem_cons.mpr ⟨?_, List.forall_mem_cons.mpr ⟨?_, List.forall_mem_cons.mpr ⟨?_, List.forall_mem_cons.mpr ⟨?_, List.forall_mem_cons.mpr ⟨?_, fun p hp => ?_⟩⟩⟩⟩⟩
    · exact .inr ⟨by k_mem, show @Ne Nat _ _ by omega⟩
    · exact .inl rfl
    · exact .inr ⟨by k_mem, stL.symm⟩
    · exact .inr ⟨by k_mem, dxL.symm⟩
    · exact .inr ⟨by k_mem, show @Ne Nat _ _ by omega⟩
    · exact .inr ⟨by repeat (first | exact hp | refine List.Mem.tail _ ?_), ledL p hp⟩)
  clear F4 N4 hN5
  k_steps
  refine Halt.out ?_
  (rename Fr g _ _ _ => F6); (rename News g _ _ _ => N6)
  have N6' := N6
  rw [← List.append_nil led] at N6'
  refine whileN (fun n m news h => ∃ i vs e u1 u2 u3 inner, n = rs.length - i ∧ i ≤ rs.length ∧ m (Str.ofString "bag") = some (.ref l') ∧
      news = ((l', { cls := .type "list", data := .seq (List.toArray vs) e }) :: (L' + 1, oC') :: (st, instObj 217 dx) :: (dx, stD w u1 u2 u3 (encR (rs.drop i)).toArray f) :: (230, tab2) :: (led ++ inner)) ∧
      (∀ p ∈ inner, p.1 ≠ l' ∧ p.1 ≠ dx ∧ p.1 ≠ L' + 1 ∧ s.heap.get? p.1 = none) ∧ Paired (fun v ss => ∃ a ws e, v = Value.ref a ∧ (a, ({ cls := .type "list", data := .seq (List.toArray ws) e } : Obj)) ∈ inner ∧ StrsAre ws ss) vs ((rs.take i).map (·.map latin))) F6 N6' ⟨0, [], 0, u1, u2, u3, [], rfl, Nat.zero_le _, rfl, rfl, by simp, by simpa using Paired.nil⟩ ?_
  clear F6 N6 N6'
  rintro n m news h tk E' F6 N6 ⟨i, vs, e, u1', u2', u3', inner, rfl, hi, hbag, rfl, hinn, hpr⟩
  change Fr g L' _ _ at F6; change News g L' _ _ at N6
  cases hdr : rs.drop i with
  | nil =>
    rw [hdr, show encR [] = [] from rfl] at N6
    k_steps
    have hE : Ext [230] s.heap h := Fr.tells F6 hg
    have hi' : i = rs.length := by
      have := congrArg List.length hdr
      simp at this; omega
    subst hi'
    rw [List.take_of_length_le (Nat.le_refl _)] at hpr
    have fz : ∀ a, g.get? a = none → @Ne Nat a 230 → s.heap.get? a = none := fun a e n => by
      cases q : s.heap.get? a with
      | none => rfl
      | some o => rw [hg a o (by simpa using n) q] at e; cases e
    exact k _ _ l' vs e inner hE (fz _ (N6 (l', _) (by k_mem)).2.2 (by omega)) (N6 (l', _) (by k_mem)).1 (fun p hp => ⟨(N6 _ (.tail _ (.tail _ (.tail _ (.tail _ (.tail _ (List.mem_append_right _ hp))))))).1, (hinn p hp).2.2.2⟩) hpr (hTb h (N6 (230, _) (by k_mem)).1 fun p hp => hback h (fun p hp => (N6 p (.tail _ (.tail _ (.tail _ (.tail _ (.tail _ (List.mem_append_left _ hp))))))).1) F6.keep p (List.mem_append_right _ hp))
  | cons r q =>
    rw [hdr] at N6
    have e1 : encR (r :: q) = r.length.toUInt8 :: (encB r ++ encR q) := by simp [encR]
    rw [e1] at N6
    have hlr : (r.length.toUInt8 :: (encB r ++ encR q)).length ≤ 300 := by
      have : encR rs = encR (rs.take i) ++ encR (rs.drop i) := by rw [encR, encR, encR, ← List.flatMap_append, List.take_append_drop]
      rw [this, hdr, e1, List.length_append] at hl0
      omega
    k_steps
    refine Halt.out ?_
    have ldin : ∀ p ∈ led ++ inner, p.1 ≠ dx ∧ p.1 ≠ L' + 1 := by
      intro p hp
      rcases List.mem_append.mp hp with hp | hp
      · exact ⟨lddx p hp, ledL p hp⟩
      · exact ⟨(hinn p hp).2.1, (hinn p hp).2.2.1⟩
    have hb := hback h (fun p hp => (N6 p (.tail _ (.tail _ (.tail _ (.tail _ (.tail _ (List.mem_append_left _ hp))))))).1) F6.keep
    have S6 : Stm w mean mg mb h₀ im st dx f h (r.length.toUInt8 :: (encB r ++ encR q)) := ⟨S.inst, fun p hp => ⟨hb p (List.mem_append_left _ hp), (S.ims p hp).2⟩, S.dxn, ⟨u1', u2', u3', (N6 (dx, _) (by k_mem)).1⟩, S.rd, S.fn⟩
    have hrm := hx r (List.mem_of_mem_drop (hdr ▸ List.mem_cons_self))
    have hc : r.length.toUInt8.toNat = r.length := by simp [Nat.toUInt8, UInt8.toNat_ofNat']; omega
    refine uint_tells G (hg0.trans' (Sub.of F6.keep)) ?_ ?_ S6 (by simp at hlr ⊢; omega) ?_
    · show dp + 1 + 6 < _; omega
    · show un + 3 + 60 < _; omega
    intro h7 tk7 t7 x7 S7
    rw [hc]
    obtain ⟨v1, v2, v3, hd7⟩ := S7.dct
    obtain ⟨F7, N7⟩ := news_ext (news' := (l', { cls := .type "list", data := .seq (List.toArray vs) e }) :: (L' + 1, oC') :: (st, instObj 217 dx) :: (dx, stD w v1 v2 v3 (encB r ++ encR q).toArray f) :: (230, tab2) :: (led ++ inner)) F6 N6 (by k_mem) x7 hd7 (by
      refine List.forall_mem_cons.mpr ⟨?_, List.forall_mem_cons.mpr ⟨?_, List.forall_mem_cons.mpr ⟨?_, List.forall_mem_cons.mpr ⟨?_, List.forall_mem_cons.mpr ⟨?_, fun p hp => ?_⟩⟩⟩⟩⟩
      · exact .inr ⟨by k_mem, show @Ne Nat _ _ by omega⟩
      · exact .inr ⟨by k_mem, dxL⟩
      · exact .inr ⟨by k_mem, (S.ims _ S.inst).2.2⟩
      · exact .inl rfl
      · exact .inr ⟨by k_mem, dx230⟩
      · exact .inr ⟨by repeat (first | exact hp | refine List.Mem.tail _ ?_), (ldin p hp).1⟩)
    clear F6 N6
    k_steps
    refine Halt.out ?_
    (rename Fr g _ _ _ => F8); (rename News g _ _ _ => N8)
    k_dflt (refine comp1G (cl := [(Str.ofString "stream", L' + 1)]) rfl rfl (by decide) rfl (by decide) rfl ?_)
    k_steps
    refine Halt.out ?_
    refine call_range_1 ?_
    have bs := hback _ (fun p hp => (N8 p (.tail _ (.tail _ (.tail _ (.tail _ (.tail _ (List.mem_append_left _ hp))))))).1) F8.keep
    have n8d := (N8 (dx, _) (by k_mem)).1
    have n8c := (N8 (L' + 1, _) (by k_mem)).1
    have hqr : (encB r ++ encR q).length ≤ 300 := by simp at hlr ⊢; omega
    refine Halt.out ⟨r.length, _, [], [dx], Src.range (IsRange.new _ _ _ _ _ _ _) rfl (by omega), ?_, by simp, ?_, ?_⟩
    · exact Nat.le_trans hrm.1 (by decide)
    · intro b hb
      rw [List.mem_singleton.mp hb]
      exact ⟨by simp, Heap.lt_size (Heap.get?_push_of_some _ n8d)⟩
    generalize hH : Heap.push _ _ = H
    have H8 : Sub _ H := hH ▸ sub_push _ _
    intro I C D hI hC hD hCD hID hIC
    have Hd := H8.get n8d
    have fr4 : ∀ {W : List Addr} {h' : Heap}, Ext [C, D, I, dx] H h' → Ext [dx] H h' := fun {W} {h'} e => ⟨fun b o nb eb => e.keep b o (by
      simp only [List.mem_cons, List.not_mem_nil, or_false, not_or] at nb ⊢
      exact ⟨ne_of_get eb hC, ne_of_get eb hD, ne_of_get eb hI, nb⟩) eb⟩
    refine ⟨fun j ys h => ∃ a1 a2 a3, h.get? dx = some (stD w a1 a2 a3 (encB (r.drop j) ++ encR q).toArray f) ∧ Ext [C, D, I, dx] H h ∧ StrsAre ys ((r.take j).map latin), ?_, ?_, ?_, ?_⟩
    · rintro j ys h h' ⟨a1, a2, a3, e1, e2, e3⟩ x
      refine ⟨a1, a2, a3, x.keep _ _ ?_ e1, e2.trans (x.mono (by simp)), e3⟩
      simp only [List.mem_cons, List.not_mem_nil, or_false, not_or]
      exact ⟨ne_of_get Hd hC, ne_of_get Hd hD, ne_of_get Hd hI⟩
    · exact ⟨v1, v2, v3, by simpa using Hd, Ext.refl _, by simpa using StrsAre.nil⟩
    · rintro j v ys s₃ m₃ E3 hj ⟨tj, rfl⟩ ⟨a1, a2, a3, hd3, x3, hys⟩ hmv hns hm hlen hpl hIs
      refine wpAny_tests_nil ?_
      simp only [if_true]
      refine ⟨Mv.refl _, Ext.refl _, ?_⟩
      obtain ⟨x, r', hxr⟩ : ∃ x r', r.drop j = x :: r' := by
        cases hq : r.drop j with
        | nil => have := congrArg List.length hq; simp at this; omega
        | cons x r' => exact ⟨x, r', rfl⟩
      have ex3 : encB (x :: r') = x.length.toUInt8 :: (x ++ encB r') := by simp [encB]
      have hxm : x ∈ r := List.mem_of_mem_drop (hxr ▸ List.mem_cons_self)
      have hx2 := hrm.2 x hxm
      rw [hxr, ex3, List.cons_append, List.append_assoc] at hd3
      have x4 := fr4 (W := []) x3
      have g3 : ∀ b o, g.get? b = some o → s₃.heap.get? b = some o := fun b o e => x4.keep b o (by
        have h1 := (N8 (dx, _) (by k_mem)).2.2
        simp only [List.mem_singleton]
        rintro rfl
        rw [h1] at e; cases e) (H8.get (F8.keep b o e))
      have hsub3 : Sub h₀ s₃.heap := hg0.trans' (Sub.of g3)
      have XK : (hd1.heap_39 w.params).In s₃.heap := fun a o e => hsub3.get (G.K a o e)
      have hcell : s₃.heap.get? (L' + 1) = some oC' := x4.keep _ _ (by simpa using dxL) (H8.get n8c)
      have S3 : Stm w mean mg mb h₀ im st dx f s₃.heap (x.length.toUInt8 :: (x ++ (encB r' ++ encR q))) := ⟨S.inst, fun p hp => ⟨x4.keep _ _ (by simpa using (S.ims p hp).2.2) (H8.get (bs p (List.mem_append_left _ hp))), (S.ims p hp).2⟩, S.dxn, ⟨a1, a2, a3, hd3⟩, S.rd, S.fn⟩
      walk1
      walk1
      walk1
      walk1
      k_dflt (refine nCell (c := L' + 1) (o := oC') (v := .ref st) rfl hcell dC' ?_ rfl rfl)
      k_steps
      refine Halt.out ?_
      have hc : x.length = x.length.toUInt8.toNat := by simp [Nat.toUInt8, UInt8.toNat_ofNat']; omega
      refine str_tells G hsub3 ?_ ?_ S3 hc hx2 ?_ ?_
      · show dp + 1 + 7 < _; omega
      · show un + 3 + 70 < _; omega
      · have h1 : encB r = encB (r.take j) ++ encB (r.drop j) := by rw [encB, encB, encB, ← List.flatMap_append, List.take_append_drop]
        rw [h1, hxr, ex3] at hqr
        simp at hqr ⊢; omega
      intro h9 tk9 t9 x9 S9
      obtain ⟨b1, b2, b3, hd9⟩ := S9.dct
      refine Halt.out ⟨⟨_, _, rfl⟩, x9, b1, b2, b3, ?_, x3.trans (x9.mono (by simp)), ?_⟩
      · rw [show r.drop (j + 1) = r' by rw [← List.drop_drop, hxr]; rfl]; exact hd9
      · have : r.take (j + 1) = r.take j ++ [x] := by
          rw [List.take_add_one]
          have : r[j]? = some x := by
            have := congrArg (fun l => l[0]?) hxr
            simpa using this
          rw [this]; rfl
        rw [this, List.map_append]
        exact StrsAre.append' hys (.cons _ _ .nil)
    · rintro h9 tk9 ys ⟨a1, a2, a3, hd9, x9, hys⟩ hlen ⟨eD, hpl⟩
      rw [List.drop_of_length_le (Nat.le_refl _), show encB [] = [] from rfl, List.nil_append] at hd9
      rw [List.take_of_length_le (Nat.le_refl _)] at hys
      have x10 := (Sub.ext H8).trans (fr4 (W := []) x9)
      obtain ⟨F10, N10⟩ := news_ext (news' := (l', { cls := .type "list", data := .seq (List.toArray vs) e }) :: (L' + 1, oC') :: (st, instObj 217 dx) :: (dx, stD w a1 a2 a3 (encR q).toArray f) :: (230, tab2) :: (led ++ inner)) F8 N8 (by k_mem) x10 hd9 (by
        refine List.forall_mem_cons.mpr ⟨?_, List.forall_mem_cons.mpr ⟨?_, List.forall_mem_cons.mpr ⟨?_, List.forall_mem_cons.mpr ⟨?_, List.forall_mem_cons.mpr ⟨?_, fun p hp => ?_⟩⟩⟩⟩⟩
        · exact .inr ⟨by k_mem, show @Ne Nat _ _ by omega⟩
        · exact .inr ⟨by k_mem, dxL⟩
        · exact .inr ⟨by k_mem, (S.ims _ S.inst).2.2⟩
        · exact .inl rfl
        · exact .inr ⟨by k_mem, dx230⟩
        · exact .inr ⟨by repeat (first | exact hp | refine List.Mem.tail _ ?_), (ldin p hp).1⟩)
      have Dn : ∀ p o, (p, o) ∈ (l', ({ cls := .type "list", data := .seq (List.toArray vs) e } : Obj)) :: (L' + 1, oC') :: (st, instObj 217 dx) :: (dx, stD w v1 v2 v3 (encB r ++ encR q).toArray f) :: (230, tab2) :: (led ++ inner) → D ≠ p := fun p o hp => (ne_of_get (H8.get (N8 (p, o) hp).1) hD).symm
      obtain ⟨oL, _, _, hLo, _⟩ := F8.ns
      have N11 : News g L' h9 ((l', { cls := .type "list", data := .seq (List.toArray vs) e }) :: (L' + 1, oC') :: (st, instObj 217 dx) :: (dx, stD w a1 a2 a3 (encR q).toArray f) :: (230, tab2) :: (led ++ (inner ++ [(D, { cls := .type "list", data := .seq (List.toArray ys) eD })]))) := by
        intro p hp
        rw [← List.append_assoc] at hp
        have hp' : p ∈ ((l', ({ cls := .type "list", data := .seq (List.toArray vs) e } : Obj)) :: (L' + 1, oC') :: (st, instObj 217 dx) :: (dx, stD w a1 a2 a3 (encR q).toArray f) :: (230, tab2) :: (led ++ inner)) ∨ p = (D, { cls := .type "list", data := .seq (List.toArray ys) eD }) := by
          simp only [List.mem_cons, List.mem_append, List.not_mem_nil, or_false] at hp ⊢
          rcases hp with h | h | h | h | h | (h | h) | h <;> simp [h]
        rcases hp' with hp | rfl
        · exact N10 p hp
        · exact ⟨hpl, (ne_of_get (H8.get hLo) hD).symm, get_none_sub F8.keep (get_none_sub (fun b o e => H8.get e) hD)⟩
      have sD : s.heap.get? D = none := by
        cases hq : s.heap.get? D with
        | none => rfl
        | some o =>
          exfalso
          by_cases h230 : D = 230
          · exact Dn 230 tab2 (by k_mem) h230
          · have := H8.get (F8.keep _ _ (hg D o (by simpa using h230) hq))
            rw [hD] at this; cases this
      have Dl := Dn l' _ (by k_mem)
      have Ddx := Dn dx _ (by k_mem)
      have DL1 := Dn (L' + 1) _ (by k_mem)
      clear F8 N8 N10 Dn
      k_steps
      refine Halt.out ?_
      (rename Fr g _ _ _ => F12); (rename News g _ _ _ => N12)
      refine append_N F12 N12 ?_ ?_ ?_
      · intro p hp
        simp only [List.mem_cons, List.mem_append, List.not_mem_nil, or_false] at hp
        rcases hp with rfl | rfl | rfl | rfl | hp | hp | rfl
        · show @Ne Nat _ _; omega
        · show @Ne Nat _ _; omega
        · show @Ne Nat _ _; omega
        · show @Ne Nat _ _; omega
        · exact Nat.ne_of_lt (allLt_mem l1'.2.2.2.2 p hp)
        · exact (hinn p hp).1
        · exact Dl
      · rw [List.size_toArray, Paired.length hpr]; simp; exact Nat.le_trans (Nat.le_trans (Nat.min_le_right _ _) hn) (by decide)
      intro h13 e13 F13 N13
      clear F12 N12
      k_steps
      refine Halt.out ⟨rfl, rs.length - (i + 1), _, _, _, _, ?_, rfl, F13, N13, i + 1, vs ++ [.ref D], e13, a1, a2, a3, inner ++ [(D, { cls := .type "list", data := .seq (List.toArray ys) eD })], rfl, ?_, ?_, ?_, ?_, ?_⟩
      · have h2 := congrArg List.length hdr
        simp at h2; omega
      · have h2 := congrArg List.length hdr
        simp at h2; omega
      · rw [if_neg (by decide)]; exact hbag
      · have : rs.drop (i + 1) = q := by rw [← List.drop_drop, hdr]; rfl
        rw [this]; simp
      · intro p hp
        rcases List.mem_append.mp hp with hp | hp
        · exact hinn p hp
        · rw [List.mem_singleton.mp hp]
          exact ⟨Dl, Ddx, DL1, sD⟩
      · have : rs.take (i + 1) = rs.take i ++ [r] := by
          rw [List.take_add_one]
          have : rs[i]? = some r := by
            have := congrArg (fun l => l[0]?) hdr
            simpa using this
          rw [this]; rfl
        rw [this, List.map_append]
        refine Paired.snoc ?_ ⟨D, ys, eD, rfl, by simp, hys⟩
        exact paired_mono hpr fun v ss ⟨a, ws, e, h1, h2, h3⟩ => ⟨a, ws, e, h1, List.mem_append_left _ h2, h3⟩
end

end

-- L1j
/-- a text in which a pattern is not found -/
def NoHit (w : World) (r : Addr) (x : Str) : Prop := ∀ t, runQ (fun a => (hd1.heap_39 w.params).lookup a) 4000 (Builtin.«re.Pattern.search» ⟨[.ref r, .str x t], []⟩) = some (.done (.ret .none))
theorem noHit1 (w : World) : NoHit w 48 (Str.ofString "ab") := fun t => by kernel_rfl
theorem noHit2 (w : World) : NoHit w 53 (Str.ofString "7") := fun t => by kernel_rfl
theorem noHit3 (w : World) : NoHit w 48 ⟨#[233]⟩ := fun t => by kernel_rfl
theorem noHit4 (w : World) : NoHit w 48 ⟨#[]⟩ := fun t => by kernel_rfl
theorem pat48 (w : World) : ∃ o, (hd1.heap_39 w.params).lookup 48 = some o ∧ o.cls = .type "re.Pattern" ∧ o.dict = none := ⟨_, rfl, rfl, rfl⟩
theorem pat53 (w : World) : ∃ o, (hd1.heap_39 w.params).lookup 53 = some o ∧ o.cls = .type "re.Pattern" ∧ o.dict = none := ⟨_, rfl, rfl, rfl⟩

-- L1k
section
variable {w : World} {mean : ExcName → Option Value} {mg mb : Str → Option Value} {h₀ : Heap} {dp un : Nat} {fr : Option (List Env)} {gd : Option (List Code)} {s : Shared} {Q E : Value → Shared → Prop}
theorem search_no {r : Addr} {x : Str} {t : Tok} (G : G1 w mean mg mb h₀) (hs : Sub h₀ s.heap) (hx : NoHit w r x) (hT : s.TypeIs (.ref r) "re.Pattern") {A : Around} (h : Q .none s) :
    wpAny (model Challenge.rw_nb0223_01.row.prog w) A (call (.builtin "re.Pattern.search") [.ref r, .str x t]) Q E s :=
  call_meets (S := fun A R s' => s' = s ∧ R (.ok (.ret .none)) s) slot_pat_search hT entry_pat_search (args_pat_search _ _)
    (.of_wp fun prog w' A R s' hS => by obtain ⟨rfl, hR⟩ := hS; exact runQ_any (hx t) (fun a o e => hs.get (G.K a o e)) ⟨_, rfl, hR⟩) ⟨rfl, h⟩
theorem conv_name {x : Str} {t : Tok} {self : Value} (G : G1 w mean mg mb h₀) (hs : Sub h₀ s.heap) (hd : dp + 3 < recursionLimit) (hu : un + 30 < cLine) (hx : NoHit w 48 x)
    (k : ∀ h' tk, Sub s.heap h' → Q (.str x t) { s with heap := h', toks := tk }) :
    wpAny (model Challenge.rw_nb0223_01.row.prog w) (Ar dp un fr gd) (call (.ref 83) [self, .str x t] [(Str.ofString "name", .bool true)]) Q E s := by
  have X0 := G.K
  revert X0 G
  k_fill
  intro G X0
  have I : In0 h₀ s.heap [] := ⟨hs, by simp⟩
  refine wpAny_call ?_
  walk_at "my enter"
  intro g L' h₁ hg hg0 hL F N X T
  dsimp only
  k_fold
  k_steps
  (rename Fr g _ _ _ => F1); (rename News g _ _ _ => N1)
  obtain ⟨o, ho, hc, hdn⟩ := pat48 w
  have hob := F1.keep _ _ (X _ _ ho)
  refine getMethod_builtin ⟨o, hob, hc⟩ plainAttrs_pat slot_pat_search type_pat_search (fun a e => by cases e; exact ⟨o, hob, hdn⟩) ?_
  k_steps
  refine search_no G (hg0.trans' (Sub.of F1.keep)) hx ⟨o, hob, hc⟩ ?_
  k_steps
  exact k _ _ (Fr.tells F1 (W := []) fun b o n e => hg b o (by simp) e)
theorem conv_val {x : Str} {t : Tok} {self : Value} (G : G1 w mean mg mb h₀) (hs : Sub h₀ s.heap) (hd : dp + 3 < recursionLimit) (hu : un + 30 < cLine) (hx : NoHit w 53 x)
    (k : ∀ h' tk, Sub s.heap h' → Q (.str x t) { s with heap := h', toks := tk }) :
    wpAny (model Challenge.rw_nb0223_01.row.prog w) (Ar dp un fr gd) (call (.ref 83) [self, .str x t] [(Str.ofString "name", .bool false)]) Q E s := by
  have X0 := G.K
  revert X0 G
  k_fill
  intro G X0
  have I : In0 h₀ s.heap [] := ⟨hs, by simp⟩
  refine wpAny_call ?_
  walk_at "my enter"
  intro g L' h₁ hg hg0 hL F N X T
  dsimp only
  k_fold
  k_steps
  (rename Fr g _ _ _ => F1); (rename News g _ _ _ => N1)
  obtain ⟨o, ho, hc, hdn⟩ := pat53 w
  have hob := F1.keep _ _ (X _ _ ho)
  refine getMethod_builtin ⟨o, hob, hc⟩ plainAttrs_pat slot_pat_search type_pat_search (fun a e => by cases e; exact ⟨o, hob, hdn⟩) ?_
  k_steps
  refine search_no G (hg0.trans' (Sub.of F1.keep)) hx ⟨o, hob, hc⟩ ?_
  k_steps
  exact k _ _ (Fr.tells F1 (W := []) fun b o n e => hg b o (by simp) e)
end

end

-- L1l
section
variable {w : World} {mean : ExcName → Option Value} {mg mb : Str → Option Value} {h₀ : Heap} {dp un : Nat} {fr : Option (List Env)} {gd : Option (List Code)} {s : Shared} {Q E : Value → Shared → Prop}
/-- the dict of a Headers -/
abbrev hdD (w : World) (t1 : Tok) (lh : Addr) : Obj := dictOf [⟨PyData.keyHash w.params (Str.ofString "_headers"), .str (Str.ofString "_headers") t1, .ref lh⟩] 1
abbrev lsO (vs : List Value) (e : Nat) : Obj := { cls := .type "list", data := .seq (List.toArray vs) e }
abbrev tpO (vs : List Value) : Obj := { cls := .type "tuple", data := .seq (List.toArray vs) 0 }
/-- a row of tuples of two texts, told by their objects -/
def RowIn (tups : List (Addr × Obj)) (vs : List Value) (items : List (Str × Str)) : Prop := Paired (fun v (nx : Str × Str) => ∃ a t1 t2, v = Value.ref a ∧ (a, tpO [.str nx.1 t1, .str nx.2 t2]) ∈ tups) vs items
structure Hdr (w : World) (h₀ : Heap) (tb dt lh : Addr) (tups : List (Addr × Obj)) (h : Heap) (items : List (Str × Str)) : Prop where
  inst : h.get? tb = some (instObj 182 dt)
  dct : ∃ t1, h.get? dt = some (hdD w t1 lh)
  lst : ∃ vs e, h.get? lh = some (lsO vs e) ∧ RowIn tups vs items
  tup : ∀ p ∈ tups, h.get? p.1 = some p.2 ∧ p.1 ≠ lh ∧ h₀.get? p.1 = none
  n0 : h₀.get? tb = none ∧ h₀.get? dt = none ∧ h₀.get? lh = none
theorem ne_of_obj {h : Heap} {a b : Addr} {o o' : Obj} (e : h.get? a = some o) (e' : h.get? b = some o') (hn : o ≠ o') : a ≠ b := by rintro rfl; rw [e] at e'; exact hn (Option.some.inj e')
theorem join_one (sep x : Str) : Txt.join sep [x] = x := by
  have h := join_closes (sep := sep) (sep' := sep) (ys := [x]) rfl
  rw [eq_of_beq h]; rfl
theorem add_tells {tb dt lh : Addr} {tups : List (Addr × Obj)} {items : List (Str × Str)} {n x : Str} {tn tx : Tok} (G : G1 w mean mg mb h₀) (hs : Sub h₀ s.heap) (hd : dp + 6 < recursionLimit) (hu : un + 60 < cLine) (H : Hdr w h₀ tb dt lh tups s.heap items) (hz : items.length ≤ 100)
    (hn : NoHit w 48 n) (hx : NoHit w 53 x) (hlen : x.length ≤ 100)
    (k : ∀ h' tk a t1 t2, Ext [lh] s.heap h' → Hdr w h₀ tb dt lh ((a, tpO [.str n t1, .str x t2]) :: tups) h' (items ++ [(n, x)]) → s.heap.get? a = none → Q .none { s with heap := h', toks := tk }) :
    wpAny (model Challenge.rw_nb0223_01.row.prog w) (Ar dp un fr gd) (call (.ref 179) [.ref tb, .str n tn, .str x tx]) Q E s := by
  have X0 := G.K
  revert X0 G
  k_fill
  intro G X0
  obtain ⟨t1, hdt⟩ := H.dct
  obtain ⟨vs, e, hl, hr⟩ := H.lst
  have I : In0 h₀ s.heap [(lh, lsO vs e), (tb, instObj 182 dt), (dt, hdD w t1 lh)] := ⟨hs, by simp [hl, H.inst, hdt, H.n0]⟩
  refine wpAny_call ?_
  k_dflt (refine' code_rawD (PD := fun od => od = dictOf [] 0) (bd := fun d => [(Str.ofString "self", .ref tb), (Str.ofString "_name", .str n tn), (Str.ofString "_value", .str x tx), (Str.ofString "_params", .ref d)]) G I ?k6 ?k7 ?k8 ?k9 ?kB ?_ ?c2 ?c3 ?c4 ?c5; (case k6 => k_is); (case k7 => k_is); (case k8 => ktr_room); (case k9 => intro A' E' Q' kk; refine peekA_raw (o := dictOf [] 0) (fun a o e => hs.get (G.K a o e)) _ _ rfl ?_; exact wpAny_of_eq rfl (kk _ _ _ _ rfl (sub_push _ _) (Nat.le_refl _) (Heap.get?_push_size _ rfl))); (case c5 => decide); (case kB => exact fun d => locs rfl); (case c2 => exact rfl); (case c3 => exact rfl); (case c4 => exact rfl); k_whole)
  rintro g L' h₁ d od tk rfl hg hg0 hdn hne F N X T
  (try dsimp only); (try k_unmd); k_fold
  k_steps
  refine Halt.out ?_
  (rename Fr g _ _ _ => F1); (rename News g _ _ _ => N1)
  refine conv_val G (hg0.trans' (Sub.of F1.keep)) ?_ ?_ hx ?_
  · show dp + 1 + 3 < _; omega
  · show un + 3 + 30 < _; omega
  intro h2 tk2 x2
  have F2 := Fr.ext F1 x2 (by simp) (by simp)
  have N2 := News.ext N1 x2 (by simp)
  clear F1 N1
  k_steps
  refine Halt.out ?_
  (rename Fr g _ _ _ => F3); (rename News g _ _ _ => N3)
  rename_i l' _ l1 _ _ _
  refine append_N F3 N3 ?_ (by decide) ?_
  · intro p hp
    simp only [List.mem_cons, List.not_mem_nil, or_false] at hp
    rcases hp with rfl | rfl | rfl | rfl <;> (show @Ne Nat _ _; omega)
  intro h4 e4 F4 N4
  replace N4 : News g L' h4 [(l', W.listOf #[.str x tx] e4), (d, dictOf [] 0), (lh, lsO vs e), (tb, instObj 182 dt), (dt, hdD w t1 lh)] := N4
  have lo' : (d == sysModules) = false := by
    have h1 : sysModules < s.heap.objs.size := modules_low (G.T.nolimit.keeps fun _ _ e => hs.get e)
    exact beq_eq_false_iff_ne.mpr (Nat.ne_of_gt (Nat.lt_of_lt_of_le h1 hdn))
  have hs' := kp_isDict (prog := Challenge.rw_nb0223_01.row.prog) (w := w) (ex := []) 0 0 .nil
  have fs' := PyProof.V.FlatPairs.nil (enc := PyData.str)
  clear F3 N3
  k_steps
  refine Halt.out ?_
  (rename Fr g _ _ _ => F5); (rename News g _ _ _ => N5)
  change Fr g L' _ _ at F5; change News g L' _ _ at N5
  refine conv_name G (hg0.trans' (Sub.of F5.keep)) ?_ ?_ hn ?_
  · show dp + 1 + 3 < _; omega
  · show un + 3 + 30 < _; omega
  intro h6 tk6 x6
  have F6 := Fr.ext F5 x6 (by simp) (by simp)
  have N6 := News.ext N5 x6 (by simp)
  clear F5 N5
  k_steps
  refine Halt.out ?_
  (rename Fr g _ _ _ => F7); (rename News g _ _ _ => N7)
  have ej : Txt.join (Str.ofString "; ") [x] = x := join_one _ _
  rw [ej] at N7
  rename_i t7 _ D' _ l7
  have N8 : News g L' _ ((lh, lsO vs e) :: (D', tpO [.str n tn, .str x t7]) :: (tb, instObj 182 dt) :: [(dt, hdD w t1 lh)]) := (by (repeat refine nCons (N7 _ (by k_mem)) ?_); first | exact (fun p hp => absurd hp List.not_mem_nil) | exact fun p hp => N7 p (by repeat (first | exact hp | refine List.Mem.tail _ ?_)))
  refine append_N F7 N8 ?_ ?_ ?_
  · refine List.forall_mem_cons.mpr ⟨?_, List.forall_mem_cons.mpr ⟨?_, List.forall_mem_cons.mpr ⟨?_, fun _ hp => nomatch hp⟩⟩⟩
    · show @Ne Nat _ _; omega
    · exact (ne_of_obj H.inst hl (by intro q; exact absurd (congrArg Obj.cls q) (by simp)))
    · exact (ne_of_obj hdt hl (by intro q; have q' : Value.type "dict" = Value.type "list" := congrArg Obj.cls q; exact absurd q' (by decide)))
  · rw [List.size_toArray, Paired.length hr]; exact Nat.le_trans hz (by decide)
  intro h9 e9 F9 N9
  clear F7 N7 N8
  k_steps
  have hE : Ext [lh] s.heap h9 := Ext.less (Fr.tells F9 hg) (by
    intro b hb nb o eb
    simp only [List.map, List.mem_cons, List.not_mem_nil, or_false] at hb nb
    rcases hb with rfl | rfl | rfl
    · exact absurd rfl nb
    · rw [H.inst] at eb; cases eb; exact (N9 (b, _) (by k_mem)).1
    · rw [hdt] at eb; cases eb; exact (N9 (b, _) (by k_mem)).1)
  have sD : s.heap.get? D' = none := by
    cases hq : s.heap.get? D' with
    | none => rfl
    | some o =>
      exfalso
      have := hg D' o (by
        simp only [List.map, List.mem_cons, List.not_mem_nil, or_false, not_or]
        exact ⟨show @Ne Nat _ _ by omega, show @Ne Nat _ _ by omega, show @Ne Nat _ _ by omega⟩) hq
      rw [(N9 (D', _) (by k_mem)).2.2] at this; cases this
  refine k h9 _ D' tn t7 hE ⟨(N9 (tb, _) (by k_mem)).1, ⟨t1, (N9 (dt, _) (by k_mem)).1⟩, ⟨vs ++ [.ref D'], e9, by simpa using (N9 _ (.head _)).1, ?_⟩, ?_, H.n0⟩ sD
  · refine Paired.snoc (paired_mono hr fun v nx ⟨a, t1, t2, h1, h2⟩ => ⟨a, t1, t2, h1, List.mem_cons_of_mem _ h2⟩) ⟨D', tn, t7, rfl, List.mem_cons_self⟩
  · intro p hp
    rcases List.mem_cons.mp hp with rfl | hp
    · exact ⟨(N9 (D', _) (by k_mem)).1, (show @Ne Nat _ _ by dsimp only; omega), get_none_sub (fun b o e => hg0.get e) (N9 (D', _) (by k_mem)).2.2⟩
    · exact ⟨hE.keep _ _ (by simpa using (H.tup p hp).2.1) (H.tup p hp).1, (H.tup p hp).2⟩
end

section
local macro_rules | `(tactic| walk_at "my enterC") => `(tactic| (k_dflt (refine' code_rawC ?k1 ?k2 ?k6 ?k7 ?k8 ?k9 ?kB ?kD ?_ ?c2 ?c3 ?c4; (case k1 => assumption); (case k2 => assumption); (case k6 => k_is); (case k7 => k_is); (case k8 => ktr_room); (case k9 => exact BindsTo.of_eq rfl); (case kB => exact rfl); (case kD => decide +kernel); (case c2 => exact rfl); (case c3 => exact rfl); (case c4 => exact rfl); k_whole)))
local macro_rules | `(tactic| walk_at "storeName") => `(tactic| ((with_reducible show wpAny _ _ (storeName (envOfC _ _ _ _ _) _ _) _ _ _); first | (k_dflt (refine' storeX_L ?F ?N ?_ ?a ?b; (case F => k_asm); (case N => k_asm); (case a => rfl); (case b => rfl); k_whole; intro h' F' N'; (try k_sweep))) | refine halt ?_))
local macro_rules | `(tactic| walk_at "exec For") => `(tactic| (refine halt ?_))

-- L1m
section
variable {w : World} {mean : ExcName → Option Value} {mg mb : Str → Option Value} {h₀ : Heap} {dp un : Nat} {fr : Option (List Env)} {gd : Option (List Code)} {s : Shared} {Q E : Value → Shared → Prop}
theorem paired_at {α β : Type} {F : α → β → Prop} {l₁ : List α} {l₂ : List β} (h : Paired F l₁ l₂) : ∀ (i : Nat) {v : α}, l₁[i]? = some v → ∃ b, l₂[i]? = some b ∧ F v b := by
  induction h with
  | nil => intro i v e; simp at e
  | cons h1 _ ih =>
    intro i v e
    cases i with
    | zero => simp at e; subst e; exact ⟨_, rfl, h1⟩
    | succ i => simpa using ih i (by simpa using e)
theorem all_tells {tb dt lh : Addr} {tups : List (Addr × Obj)} {items : List (Str × Str)} {q : Str} {tq : Tok} (G : G1 w mean mg mb h₀) (hs : Sub h₀ s.heap) (hd : dp + 6 < recursionLimit) (hu : un + 60 < cLine) (H : Hdr w h₀ tb dt lh tups s.heap items) (hz : items.length ≤ 100) (hq : q.length ≤ 100) (hnq : NoHit w 48 (Txt.lower q)) (hit : ∀ nx ∈ items, nx.1.length ≤ 100)
    (k : ∀ h' tk D ys eD, Sub s.heap h' → s.heap.get? D = none → h'.get? D = some (lsO ys eD) → StrsAre ys ((items.filter (fun nx => Txt.lower nx.1 == Txt.lower q)).map (·.2)) → Q (.ref D) { s with heap := h', toks := tk }) :
    wpAny (model Challenge.rw_nb0223_01.row.prog w) (Ar dp un fr gd) (call (.ref 121) [.ref tb, .str q tq]) Q E s := by
  have X0 := G.K
  revert X0 G
  k_fill
  intro G X0
  obtain ⟨t1, hdt⟩ := H.dct
  obtain ⟨vs, e, hl, hr⟩ := H.lst
  have I : In0 h₀ s.heap [(lh, lsO vs e), (tb, instObj 182 dt), (dt, hdD w t1 lh)] := ⟨hs, by simp [hl, H.inst, hdt, H.n0]⟩
  refine wpAny_call ?_
  walk_at "my enterC"
  intro g L' h₁ tk1 cells hg hg0 hL F N Y X T l1
  k_lt l1; have hY := CellsAre.one Y; obtain ⟨oC, hE, dC⟩ := hY; subst hE; clear Y
  simp only [List.cons_append, List.nil_append] at N
  (try dsimp only); (try k_unmd); k_fold
  k_steps
  refine Halt.out ?_
  (rename Fr g _ _ _ => F1); (rename News g _ _ _ => N1)
  refine conv_name G (hg0.trans' (Sub.of F1.keep)) ?_ ?_ hnq ?_
  · show dp + 1 + 3 < _; omega
  · show un + 3 + 30 < _; omega
  intro h2 tk2 x2
  have F2 := Fr.ext F1 x2 (by simp) (by simp)
  have N2 := News.ext N1 x2 (by simp)
  clear F1 N1
  k_steps
  refine Halt.out ?_
  k_dflt (refine storeCell F2 N2 rfl rfl rfl (show (L' + 1, oC) ∈ _ by k_mem) dC ?_)
  intro h5 oC' dC' hN5 F5
  have N5 := hN5 [(L' + 1, oC'), (lh, lsO vs e), (tb, instObj 182 dt), (dt, hdD w t1 lh)] (by
    refine List.forall_mem_cons.mpr ⟨?_, List.forall_mem_cons.mpr ⟨?_, List.forall_mem_cons.mpr ⟨?_, List.forall_mem_cons.mpr ⟨?_, fun _ hp => nomatch hp⟩⟩⟩⟩
    · exact .inl rfl
    · exact .inr ⟨by k_mem, show @Ne Nat _ _ by omega⟩
    · exact .inr ⟨by k_mem, show @Ne Nat _ _ by omega⟩
    · exact .inr ⟨by k_mem, show @Ne Nat _ _ by omega⟩)
  clear F2 N2 hN5
  k_steps
  refine Halt.out ?_
  k_dflt (refine comp1S (cl := [(Str.ofString "name", L' + 1)]) (fun i ys => StrsAre ys (((items.take i).filter (fun nx => Txt.lower nx.1 == Txt.lower q)).map (·.2))) rfl rfl (by decide) rfl (by decide) rfl (by simpa using StrsAre.nil) ?_)
  k_steps
  (rename Fr g _ _ _ => F6); (rename News g _ _ _ => N6)
  have hll := (N6 (lh, _) (by k_mem)).1
  have hvl := Paired.length hr
  have htn : ∀ a o, (a, tpO o) ∈ tups → a ∉ List.map (fun x => x.1) [(lh, lsO vs e), (tb, instObj 182 dt), (dt, hdD w t1 lh)] := by
    intro a o hm
    have h1 := H.tup _ hm
    simp only [List.map, List.mem_cons, List.not_mem_nil, or_false, not_or]
    refine ⟨h1.2.1, ne_of_obj h1.1 H.inst (by intro q; exact absurd (congrArg Obj.cls q) (by simp)), ne_of_obj h1.1 hdt (by intro q; have q' : Value.type "tuple" = Value.type "dict" := congrArg Obj.cls q; exact absurd q' (by decide))⟩
  refine Halt.out ⟨_, _, _, Src.list (items := List.toArray vs) ⟨_, hll, rfl, _, rfl⟩, by rw [List.size_toArray, hvl]; exact Nat.le_trans hz (by decide), by intro b hb; rw [List.mem_singleton.mp hb]; exact Heap.lt_size hll, ?_, ?_⟩
  · intro i v ys s₃ C m₃ E3 hi hP hR hmv hx3 hns hm hlen
    refine wpAny_tests_one ?_
    obtain ⟨nx, hnx, a, ta, tb', rfl, hmem⟩ := paired_at hr i (by simpa using hP)
    have htup : s₃.heap.get? a = some (tpO [.str nx.1 ta, .str nx.2 tb']) := hx3.get (F6.keep _ _ (hg _ _ (htn a _ hmem) (H.tup _ hmem).1))
    have hln := hit nx (List.mem_of_getElem? hnx)
    have hcell : s₃.heap.get? (L' + 1) = some oC' := hx3.get (N6 (L' + 1, _) (by k_mem)).1
    k_steps
    refine item_tupleT (l := [.str nx.1 ta, .str nx.2 tb']) ⟨_, htup, rfl, _, rfl⟩ (by decide) (by decide) rfl rfl ?_
    walk1
    walk1
    walk1
    k_dflt (refine nCell (c := L' + 1) (o := oC') (v := .str (Txt.lower q) tk1) rfl hcell dC' ?_ rfl rfl)
    walk1
    walk1
    have etk : (items.take (i + 1)) = items.take i ++ [nx] := by rw [List.take_add_one, hnx]; rfl
    by_cases hb : (Txt.lower nx.1 == Txt.lower q) = true
    · rw [if_pos hb]
      refine ⟨⟨_, _, rfl⟩, Ext.refl _, ?_⟩
      k_steps
      refine item_tupleT (l := [.str nx.1 ta, .str nx.2 tb']) ⟨_, htup, rfl, _, rfl⟩ (by decide) (by decide) rfl rfl ?_
      refine Halt.out ⟨⟨_, _, rfl⟩, Ext.refl _, ?_⟩
      dsimp only
      rw [etk, List.filter_append, List.map_append]
      simp only [List.filter_cons, hb, if_true, List.filter_nil, List.map_cons, List.map_nil]
      exact StrsAre.append' hR (.cons _ _ .nil)
    · rw [if_neg hb]
      refine ⟨⟨_, _, rfl⟩, Ext.refl _, ?_⟩
      dsimp only
      rw [etk, List.filter_append, List.map_append]
      simp only [List.filter_cons, hb, if_false, List.filter_nil, List.map_nil, List.append_nil, Bool.false_eq_true]
      exact hR
  · intro D h' tk ys eD hR hlen hD hp hext
    rw [List.size_toArray, hvl, List.take_of_length_le (Nat.le_refl _)] at hR
    obtain ⟨F7, N7⟩ := news_add F6 N6 hext hD hp
    have hss : Sub s.heap h' := Ext.less (Fr.tells F7 hg) (by
      intro b hb _ o eb
      simp only [List.map, List.mem_cons, List.not_mem_nil, or_false] at hb
      rcases hb with rfl | rfl | rfl
      · rw [hl] at eb; cases eb; exact (N7 (b, _) (by k_mem)).1
      · rw [H.inst] at eb; cases eb; exact (N7 (b, _) (by k_mem)).1
      · rw [hdt] at eb; cases eb; exact (N7 (b, _) (by k_mem)).1)
    have hs5 : Sub s.heap h5 := Ext.less (Fr.tells F6 hg) (by
      intro b hb _ o eb
      simp only [List.map, List.mem_cons, List.not_mem_nil, or_false] at hb
      rcases hb with rfl | rfl | rfl
      · rw [hl] at eb; cases eb; exact (N6 (b, _) (by k_mem)).1
      · rw [H.inst] at eb; cases eb; exact (N6 (b, _) (by k_mem)).1
      · rw [hdt] at eb; cases eb; exact (N6 (b, _) (by k_mem)).1)
    have sD : s.heap.get? D = none := get_none_sub (fun b o e => hs5.get e) hD
    clear F6 N6
    k_steps
    exact k h' _ D ys eD hss sD hp hR
end

end

section
local macro_rules | `(tactic| walk_at "my enterC") => `(tactic| (k_dflt (refine' code_rawC ?k1 ?k2 ?k6 ?k7 ?k8 ?k9 ?kB ?kD ?_ ?c2 ?c3 ?c4; (case k1 => assumption); (case k2 => assumption); (case k6 => k_is); (case k7 => k_is); (case k8 => ktr_room); (case k9 => exact BindsTo.of_eq rfl); (case kB => exact rfl); (case kD => decide +kernel); (case c2 => exact rfl); (case c3 => exact rfl); (case c4 => exact rfl); k_whole)))
local macro_rules | `(tactic| walk_at "storeName") => `(tactic| ((with_reducible show wpAny _ _ (storeName (envOfC _ _ _ _ _) _ _) _ _ _); first | (k_dflt (refine' storeX_L ?F ?N ?_ ?a ?b; (case F => k_asm); (case N => k_asm); (case a => rfl); (case b => rfl); k_whole; intro h' F' N'; (try k_sweep))) | refine halt ?_))
local macro_rules | `(tactic| walk_at "exec For") => `(tactic| ((with_reducible show wpAny _ _ (exec (Stmt.For (Expr.Name _ _) _ _ _ _) _) _ _ _); refine halt ?_))
local macro_rules | `(tactic| walk_at "exec For Name Call cons nil") => `(tactic| (refine halt ?_))
local macro_rules | `(tactic| walk_at "exec For Name Name cons nil") => `(tactic| (refine halt ?_))
local macro_rules | `(tactic| walk_at "call type:range") => `(tactic| (refine halt ?_))

-- L1n
section
variable {w : World} {mean : ExcName → Option Value} {mg mb : Str → Option Value} {h₀ : Heap} {dp un : Nat} {fr : Option (List Env)} {gd : Option (List Code)} {s : Shared} {Q E : Value → Shared → Prop}
/-- the rows of the table behind i turns: each name with its place, counted from behind -/
def rowTo (names : List Str) (i : Nat) : List (Str × Str) := (List.range i).map fun j => (names.getD j default, Str.ofString (toString ((names.length : Int) - 1 - (j : Int))))
theorem noHitN (w : World) : ∀ n : Nat, n ≤ 8 → NoHit w 53 (Str.ofString (toString ((n : Nat) : Int))) ∧ (Str.ofString (toString ((n : Nat) : Int))).length ≤ 100
  | 0, _ => ⟨fun t => by kernel_rfl, by decide +kernel⟩
  | 1, _ => ⟨fun t => by kernel_rfl, by decide +kernel⟩
  | 2, _ => ⟨fun t => by kernel_rfl, by decide +kernel⟩
  | 3, _ => ⟨fun t => by kernel_rfl, by decide +kernel⟩
  | 4, _ => ⟨fun t => by kernel_rfl, by decide +kernel⟩
  | 5, _ => ⟨fun t => by kernel_rfl, by decide +kernel⟩
  | 6, _ => ⟨fun t => by kernel_rfl, by decide +kernel⟩
  | 7, _ => ⟨fun t => by kernel_rfl, by decide +kernel⟩
  | 8, _ => ⟨fun t => by kernel_rfl, by decide +kernel⟩
  | n + 9, h => absurd h (Nat.not_le.mpr (Nat.lt_of_lt_of_le (by decide) (Nat.le_add_left 9 n)))
theorem noHitZ (w : World) (z : Int) (h0 : 0 ≤ z) (h8 : z ≤ 8) : NoHit w 53 (Str.ofString (toString z)) ∧ (Str.ofString (toString z)).length ≤ 100 := by
  obtain ⟨n, rfl⟩ := Int.eq_ofNat_of_zero_le h0
  exact noHitN w n (Int.ofNat_le.mp h8)
/-- what is asked of the table -/
def asked : List Str := [Str.empty, Str.ofString "A", Str.ofString "AB", Str.ofString "B", Str.ofString "É"]
/-- the places whose name is q's, great and small letters alike, in their order -/
def at1 (names : List Str) (q : Str) : List Nat := (List.range names.length).filter fun j => Txt.lower (names.getD j default) == Txt.lower q
def placesOf (names : List Str) : List Nat := asked.flatMap (at1 names)
theorem told (names : List Str) (q : Str) : ((rowTo names names.length).filter (fun nx => Txt.lower nx.1 == Txt.lower q)).map (·.2) = (at1 names q).map fun (j : Nat) => Str.ofString (toString ((names.length : Int) - 1 - (j : Int))) := by
  unfold rowTo at1
  rw [List.filter_map, List.map_map]
  rfl
theorem strs_at {ys : List Value} {xs : List Str} (h : StrsAre ys xs) : ∀ {j : Nat} {v : Value}, ys[j]? = some v → ∃ x t, xs[j]? = some x ∧ v = .str x t := by
  induction h with
  | nil => intro j v e; simp at e
  | cons x t h ih =>
    intro j v e
    cases j with
    | zero => simp at e; exact ⟨x, t, by simp, e.symm⟩
    | succ j => simpa using ih (by simpa using e)
theorem asked_low (w : World) : ∀ q ∈ asked, NoHit w 48 (Txt.lower q) ∧ q.length ≤ 100 := by
  intro q hq
  simp only [asked, List.mem_cons, List.not_mem_nil, or_false] at hq
  rcases hq with rfl | rfl | rfl | rfl | rfl <;> exact ⟨fun t => by kernel_rfl, by decide +kernel⟩
theorem ints_snoc {vs : List Value} {ns : List Int} {n m : Int} {t : Tok} (h : IntsAre vs ns) (e : m = n) : IntsAre (vs ++ [.int m t]) (ns ++ [n]) := e ▸ IntsAre.snoc h
theorem at1_len (names : List Str) (q : Str) : (at1 names q).length ≤ names.length := by
  have := List.length_filter_le (fun j => Txt.lower (names.getD j default) == Txt.lower q) (List.range names.length)
  simpa [at1] using this
theorem ats_len (names : List Str) (l : List Str) : (l.flatMap (at1 names)).length ≤ l.length * names.length := by
  induction l with
  | nil => simp
  | cons q r ih =>
    have := at1_len names q
    simp only [List.flatMap_cons, List.length_append, List.length_cons, Nat.succ_mul]
    omega
theorem places_tells {ln : Addr} {vsn : List Value} {en : Nat} {names : List Str} (G : G1 w mean mg mb h₀) (hs : Sub h₀ s.heap) (hd : dp + 9 < recursionLimit) (hu : un + 90 < cLine) (hl : s.heap.get? ln = some (lsO vsn en)) (hvs : StrsAre vsn names) (hn9 : names.length ≤ 9) (hN : ∀ x ∈ names, NoHit w 48 x ∧ x.length ≤ 100)
    (k : ∀ h' tk D ys eD, Sub s.heap h' → s.heap.get? D = none → h'.get? D = some (lsO ys eD) → IntsAre ys ((placesOf names).map Int.ofNat) → Q (.ref D) { s with heap := h', toks := tk }) :
    wpAny (model Challenge.rw_nb0223_01.row.prog w) (Ar dp un fr gd) (call (.ref 257) [.ref ln]) Q E s := by
  have X0 := G.K
  revert X0 G
  k_fill
  intro G X0
  have I : In0 h₀ s.heap [] := ⟨hs, by simp⟩
  refine wpAny_call ?_
  walk_at "my enterC"
  intro g L' h₁ tk1 cells hg hg0 hL F N Y X T l1
  have hY := CellsAre.two Y; obtain ⟨oT, oN, hE, dT, dN⟩ := hY; subst hE; clear Y l1
  simp only [List.cons_append, List.nil_append] at N
  (try dsimp only); (try k_unmd); k_fold
  k_steps
  refine Halt.out ?_
  k_dflt (refine' call_cls ?k1 ?k2 ?k3 ?k4 ?k5 ?k6 ?_; (case k1 => k_asm); (case k2 => k_asm); (case k3 => k_asm); (case k4 => k_is); (case k5 => k_is); (case k6 => k_is); k_whole)
  intro tb dt h2 F2 N2 l2 l3
  k_lt l2; k_lt2 l3
  have I2 : In0 h₀ h2 _ := ⟨hg0.trans' (Sub.of F2.keep), fun p hp => ⟨(N2 p hp).1, get_none_sub (fun b o e => hg0.get e) (N2 p hp).2.2⟩⟩
  k_dflt (refine' code_raw ?k1 ?k2 ?k6 ?k7 ?k8 ?k9 ?kB ?_ ?c2 ?c3 ?c4 ?c5; (case k1 => assumption); (case k2 => exact I2); (case k6 => k_is); (case k7 => k_is); (case k8 => ktr_room); (case k9 => first | exact BindsTo.of_eq rfl | exact binds_K (fun a o e => I2.sub.get (G.K a o e)) rfl (by k_is) rfl rfl rfl); (case c5 => decide); (case kB => exact locs rfl); (case c2 => exact rfl); (case c3 => exact rfl); (case c4 => exact rfl); k_whole)
  intro g3 L3 h3 hg3 hg03 hL3 F3 N3 X3 T3
  (try dsimp only); (try k_unmd); k_fold
  k_steps
  (rename Fr g3 _ _ _ => F4); (rename News g3 _ _ _ => N4)
  change Fr g3 L3 _ _ at F4; change News g3 L3 _ _ at N4
  obtain ⟨F5, N5⟩ := back F2 N2 hg3 F4 N4
  clear F4 N4 F2 N2 X3 T3
  dsimp only [InitBack]
  refine ⟨rfl, ?_⟩
  k_steps
  refine Halt.out ?_
  rename_i lh _ l4 _ _ _ _ _ _ _ _
  have dN' : oN.data = .cell (some (.ref ln)) := dN
  k_dflt (refine storeCell F5 N5 rfl rfl rfl (show (L' + 1 + 1, oT) ∈ _ by k_mem) dT ?_)
  intro h6 oT' dT' hN6 F6
  have N6 := hN6 [(lh, lsO [] 0), (tb, instObj 182 dt), (dt, hdD w _ lh), (L' + 1 + 1, oT'), (L' + 1, oN)] (by
    refine List.forall_mem_cons.mpr ⟨?_, List.forall_mem_cons.mpr ⟨?_, List.forall_mem_cons.mpr ⟨?_, List.forall_mem_cons.mpr ⟨?_, List.forall_mem_cons.mpr ⟨?_, fun _ hp => nomatch hp⟩⟩⟩⟩⟩
    · exact .inr ⟨by k_mem, show @Ne Nat _ _ by omega⟩
    · exact .inr ⟨by k_mem, show @Ne Nat _ _ by omega⟩
    · exact .inr ⟨by k_mem, show @Ne Nat _ _ by omega⟩
    · exact .inl rfl
    · exact .inr ⟨by k_mem, show @Ne Nat _ _ by omega⟩)
  clear F5 N5 hN6
  obtain ⟨tH, N6⟩ : ∃ t, News g L' h6 [(lh, lsO [] 0), (tb, instObj 182 dt), (dt, hdD w t lh), (L' + 1 + 1, oT'), (L' + 1, oN)] := ⟨_, N6⟩
  have hgl : g.IsList ln vsn.toArray := ⟨_, hg _ _ (by simp) hl, rfl, _, rfl⟩
  have hvl := hvs.length
  k_steps
  refine Halt.out ?_
  (rename News g3 _ _ _ => NX); clear NX
  k_dflt (refine forN (g := g) rfl rfl rfl ?_)
  k_steps
  refine Halt.out ?_
  refine call_range_1 ?_
  refine Halt.out ⟨names.length, _, [], _, [(lh, lsO [] 0), (tb, instObj 182 dt), (dt, hdD w tH lh), (L' + 1 + 1, oT'), (L' + 1, oN)],
    fun i m news => ∃ tups vs e, news = (lh, lsO vs e) :: (tb, instObj 182 dt) :: (dt, hdD w tH lh) :: (L' + 1 + 1, oT') :: (L' + 1, oN) :: tups ∧ RowIn tups vs (rowTo names i) ∧ (∀ p ∈ tups, p.1 ≠ lh ∧ p.1 ≠ tb ∧ p.1 ≠ dt ∧ p.1 ≠ L' + 1 ∧ p.1 ≠ L' + 1 + 1 ∧ h₀.get? p.1 = none),
    Src.range (IsRange.new _ _ _ _ _ _ _) rfl (by omega), by simp, F6.push _, ?_, ⟨[], [], 0, rfl, Paired.nil, by simp⟩, ?_, ?_⟩
  · exact fun p hp => ⟨Heap.get?_push_of_some _ (N6 p hp).1, (N6 p hp).2⟩
  · clear F6 N6
    rintro I hI hIs i v m news h tk oI E' hi ⟨ti, rfl⟩ ⟨tups, vs, e, rfl, hrow, htup⟩ hneI F7 N7
    change Fr g L' _ _ at F7; change News g L' _ _ at N7
    k_steps
    refine Halt.out ?_
    have hb := noHitZ w ((names.length : Int) - 1 - (i : Int)) (by omega) (by omega)
    have hnm : names.getD ((i : Nat) : Int).toNat Str.empty ∈ names := by
      rw [Int.toNat_natCast, List.getD_eq_getElem?_getD, List.getElem?_eq_getElem hi]
      exact List.getElem_mem hi
    have z0 : ∀ a o, (a, o) ∈ (I, oI) :: (lh, lsO vs e) :: (tb, instObj 182 dt) :: (dt, hdD w tH lh) :: (L' + 1 + 1, oT') :: (L' + 1, oN) :: tups → h₀.get? a = none := fun a o hm => get_none_sub (fun b o e => hg0.get e) (N7 (a, o) hm).2.2
    have H7 : Hdr w h₀ tb dt lh tups h (rowTo names i) := ⟨(N7 (tb, _) (by k_mem)).1, ⟨tH, (N7 (dt, _) (by k_mem)).1⟩, ⟨vs, e, (N7 (lh, _) (by k_mem)).1, hrow⟩,
      fun p hp => ⟨(N7 p (.tail _ (.tail _ (.tail _ (.tail _ (.tail _ (.tail _ hp))))))).1, (htup p hp).1, (htup p hp).2.2.2.2.2⟩, z0 tb _ (by k_mem), z0 dt _ (by k_mem), z0 lh _ (by k_mem)⟩
    refine add_tells G (hg0.trans' (Sub.of F7.keep)) ?_ ?_ H7 ?_ (hN _ hnm).1 hb.1 hb.2 ?_
    · show dp + 1 + 6 < _; omega
    · show un + 3 + 60 < _; omega
    · simp [rowTo]; omega
    intro h8 tk8 a ta tx x8 H8 ha
    obtain ⟨t8, d8⟩ := H8.dct
    obtain ⟨vs8, e8, l8, r8⟩ := H8.lst
    have aN : ∀ b o, (b, o) ∈ (I, oI) :: (lh, lsO vs e) :: (tb, instObj 182 dt) :: (dt, hdD w tH lh) :: (L' + 1 + 1, oT') :: (L' + 1, oN) :: tups → a ≠ b := fun b o hm => (ne_of_get (N7 (b, o) hm).1 ha).symm
    have hIl : ∀ b o, (b, o) ∈ (lh, lsO vs e) :: (tb, instObj 182 dt) :: (dt, hdD w tH lh) :: (L' + 1 + 1, oT') :: (L' + 1, oN) :: tups → b ≠ I := fun b o hm => hneI (b, o) hm
    obtain ⟨F8, N8⟩ := news_ext (news' := (I, oI) :: (lh, lsO vs8 e8) :: (tb, instObj 182 dt) :: (dt, hdD w tH lh) :: (L' + 1 + 1, oT') :: (L' + 1, oN) :: tups) F7 N7 (show (lh, lsO vs e) ∈ _ by k_mem) x8 l8 (by
      refine List.forall_mem_cons.mpr ⟨?_, List.forall_mem_cons.mpr ⟨?_, List.forall_mem_cons.mpr ⟨?_, List.forall_mem_cons.mpr ⟨?_, List.forall_mem_cons.mpr ⟨?_, List.forall_mem_cons.mpr ⟨?_, fun p hp => ?_⟩⟩⟩⟩⟩⟩
      · exact .inr ⟨by k_mem, (hIl lh _ (by k_mem)).symm⟩
      · exact .inl rfl
      · exact .inr ⟨by k_mem, show @Ne Nat _ _ by omega⟩
      · exact .inr ⟨by k_mem, show @Ne Nat _ _ by omega⟩
      · exact .inr ⟨by k_mem, show @Ne Nat _ _ by omega⟩
      · exact .inr ⟨by k_mem, show @Ne Nat _ _ by omega⟩
      · exact .inr ⟨by repeat (first | exact hp | refine List.Mem.tail _ ?_), (htup p hp).1⟩)
    obtain ⟨oL, _, _, hLo, _⟩ := F7.ns
    have N9 : News g L' h8 ((I, oI) :: (lh, lsO vs8 e8) :: (tb, instObj 182 dt) :: (dt, hdD w tH lh) :: (L' + 1 + 1, oT') :: (L' + 1, oN) :: ((a, tpO [.str (names.getD ((i : Nat) : Int).toNat Str.empty) ta, .str (Str.ofString (toString ((names.length : Int) - 1 - (i : Int)))) tx]) :: tups)) := by
      refine List.forall_mem_cons.mpr ⟨?_, List.forall_mem_cons.mpr ⟨?_, List.forall_mem_cons.mpr ⟨?_, List.forall_mem_cons.mpr ⟨?_, List.forall_mem_cons.mpr ⟨?_, List.forall_mem_cons.mpr ⟨?_, List.forall_mem_cons.mpr ⟨?_, fun p h => ?_⟩⟩⟩⟩⟩⟩⟩
      · exact N8 _ (by k_mem)
      · exact N8 _ (by k_mem)
      · exact N8 _ (by k_mem)
      · exact N8 _ (by k_mem)
      · exact N8 _ (by k_mem)
      · exact N8 _ (by k_mem)
      · exact ⟨(H8.tup _ List.mem_cons_self).1, (ne_of_get hLo ha).symm, get_none_sub F7.keep ha⟩
      · exact N8 p (by repeat (first | exact h | refine List.Mem.tail _ ?_))
    walk1
    refine Halt.out ⟨_, _, h8, _, rfl, F8, N9, ?_, (a, _) :: tups, vs8, e8, rfl, ?_, ?_⟩
    · refine List.forall_mem_cons.mpr ⟨?_, List.forall_mem_cons.mpr ⟨?_, List.forall_mem_cons.mpr ⟨?_, List.forall_mem_cons.mpr ⟨?_, List.forall_mem_cons.mpr ⟨?_, List.forall_mem_cons.mpr ⟨?_, fun p h => ?_⟩⟩⟩⟩⟩⟩
      · exact hIl lh _ (by k_mem)
      · exact hIl tb _ (by k_mem)
      · exact hIl dt _ (by k_mem)
      · exact hIl (L' + 1 + 1) _ (by k_mem)
      · exact hIl (L' + 1) _ (by k_mem)
      · exact aN I _ (by k_mem)
      · exact hneI p (by simp [h])
    · have : rowTo names (i + 1) = rowTo names i ++ [(names.getD ((i : Nat) : Int).toNat Str.empty, Str.ofString (toString ((names.length : Int) - 1 - (i : Int))))] := by
        unfold rowTo
        rw [List.range_succ, List.map_append]
        simp [List.getD_eq_getElem?_getD, List.getElem?_eq_getElem hi]
      rw [this]; exact r8
    · intro p hp
      rcases List.mem_cons.mp hp with rfl | hp
      · exact ⟨aN lh _ (by k_mem), aN tb _ (by k_mem), aN dt _ (by k_mem), aN (L' + 1) _ (by k_mem), aN (L' + 1 + 1) _ (by k_mem), (H8.tup _ List.mem_cons_self).2.2⟩
      · exact htup p hp
  · rintro m news h tk ⟨tups, vs, e, rfl, hrow, htup⟩ F7 N7
    clear F6 N6
    change Fr g L' _ _ at F7; change News g L' _ _ at N7
    k_steps
    refine Halt.out ?_
    k_dflt (refine comp2S (cl := [(Str.ofString "table", L' + 1 + 1), (Str.ofString "names", L' + 1)]) (fun i ys => IntsAre ys (((asked.take i).flatMap (at1 names)).map Int.ofNat)) rfl rfl (by decide) rfl (by decide) rfl rfl (by decide) (by simpa using IntsAre.nil) ?_)
    k_steps
    rename_i l' _ _ _ l1
    (rename Fr g _ _ _ => F8); (rename News g _ _ _ => N8)
    refine Halt.out ⟨_, _, _, Src.list (News.isList N8 (by k_mem)), ?_, ?_, ?_⟩
    · intro b hb; rw [List.mem_singleton.mp hb]; exact Heap.lt_size (N8 (l', _) (by k_mem)).1
    · intro i v ys s₃ C m₃ E3 hi hP hR hmv hx3 hns hm hC
      refine wpAny_tests_nil ?_
      simp only [if_true]
      refine ⟨Mv.refl _, Ext.refl _, ?_⟩
      have F9 : Fr g C s₃.heap m₃ := ⟨hns, fun b o e => hx3.get (F8.keep b o e), Nat.le_trans F8.above (Nat.le_trans (Nat.le_of_lt (ns_lt F8.ns)) hC)⟩
      have N9 : News g C s₃.heap ((lh, lsO vs e) :: (tb, instObj 182 dt) :: (dt, hdD w tH lh) :: (L' + 1 + 1, oT') :: (L' + 1, oN) :: tups) := fun p hp => ⟨hx3.get (N8 p (.tail _ hp)).1, Nat.ne_of_lt (Nat.lt_of_lt_of_le (Heap.lt_size (N8 p (.tail _ hp)).1) hC), (N8 p (.tail _ hp)).2.2⟩
      obtain ⟨q, tq, hq, rfl⟩ := strs_at (xs := asked) (.cons _ _ (.cons _ _ (.cons _ _ (.cons _ _ (.cons _ _ .nil))))) (show [Value.str (Str.ofString "") _, _, _, _, _][i]? = some v by simpa using hP)
      have hcT : s₃.heap.get? (L' + 1 + 1) = some oT' := (N9 (L' + 1 + 1, _) (by k_mem)).1
      walk1
      walk1
      k_dflt (refine nCell (c := L' + 1 + 1) (o := oT') (v := .ref tb) rfl hcT dT' ?_ rfl rfl)
      k_steps
      refine Halt.out ?_
      have z0 : ∀ a o, (a, o) ∈ (lh, lsO vs e) :: (tb, instObj 182 dt) :: (dt, hdD w tH lh) :: (L' + 1 + 1, oT') :: (L' + 1, oN) :: tups → h₀.get? a = none := fun a o hm => get_none_sub (fun b o e => hg0.get e) (N9 (a, o) hm).2.2
      have H9 : Hdr w h₀ tb dt lh tups s₃.heap (rowTo names names.length) := ⟨(N9 (tb, _) (by k_mem)).1, ⟨tH, (N9 (dt, _) (by k_mem)).1⟩, ⟨vs, e, (N9 (lh, _) (by k_mem)).1, hrow⟩,
        fun p hp => ⟨(N9 p (.tail _ (.tail _ (.tail _ (.tail _ (.tail _ hp)))))).1, (htup p hp).1, (htup p hp).2.2.2.2.2⟩, z0 tb _ (by k_mem), z0 dt _ (by k_mem), z0 lh _ (by k_mem)⟩
      have hqa := asked_low w q (List.mem_of_getElem? hq)
      refine all_tells G (hg0.trans' (Sub.of F9.keep)) ?_ ?_ H9 ?_ hqa.2 hqa.1 ?_ ?_
      · show dp + 1 + 6 < _; omega
      · show un + 3 + 60 < _; omega
      · simp [rowTo]; omega
      · intro nx hnx
        simp only [rowTo, List.mem_map, List.mem_range] at hnx
        obtain ⟨j, hj, rfl⟩ := hnx
        refine (hN _ ?_).2
        show names.getD j default ∈ names
        rw [List.getD_eq_getElem?_getD, List.getElem?_eq_getElem hj]
        exact List.getElem_mem hj
      intro h10 tk10 D ys10 e10 x10 hD hD' hys
      rw [told] at hys
      have hyl := hys.length
      refine Halt.out ⟨⟨_, _, rfl⟩, x10, _, _, _, fun j zs => IntsAre zs ((((asked.take i).flatMap (at1 names)) ++ (at1 names q).take j).map Int.ofNat), Src.list (items := List.toArray ys10) ⟨_, hD', rfl, _, rfl⟩, ?_, ?_, ?_, ?_, ?_⟩
      · intro b hb; rw [List.mem_singleton.mp hb]; exact ⟨hD, Heap.lt_size hD'⟩
      · simpa using hR
      · intro j zs hz
        rw [hz.length, List.length_map, List.length_append]
        have h1 := ats_len names (asked.take i)
        have h2 := at1_len names q
        have h3 : (asked.take i).length ≤ 5 := by rw [List.length_take]; exact Nat.min_le_right i 5
        have h4 : (asked.take i).length * names.length ≤ 5 * 9 := Nat.mul_le_mul h3 hn9
        have h5 : ((at1 names q).take j).length ≤ 9 := by rw [List.length_take]; omega
        exact Nat.le_trans (Nat.add_le_add (Nat.le_trans h1 h4) h5) (by decide)
      · intro j v1 zs s₆ m₆ E'' hj hP1 hz hmv6 hx6 hold hns6 hm6 hm6'
        refine wpAny_tests_nil ?_
        simp only [if_true]
        refine ⟨Mv.refl _, Ext.refl _, ?_⟩
        obtain ⟨x, tx, hxx, rfl⟩ := strs_at hys (by simpa using hP1)
        obtain ⟨p, hp, rfl⟩ : ∃ p : Nat, (at1 names q)[j]? = some p ∧ x = Str.ofString (toString ((names.length : Int) - 1 - (p : Int))) := by
          rw [List.getElem?_map] at hxx
          cases hq : (at1 names q)[j]? with
          | none => rw [hq] at hxx; cases hxx
          | some p => rw [hq] at hxx; exact ⟨p, rfl, (Option.some.inj hxx).symm⟩
        have hpn : p < names.length := by
          have := List.mem_of_getElem? hp
          exact List.mem_range.mp (List.mem_filter.mp this).1
        have F11 : Fr g C s₆.heap m₆ := ⟨hns6, fun b o e => hx6.get (F8.keep b o e), F9.above⟩
        have hcN : s₆.heap.get? (L' + 1) = some oN := hx6.get (N8 (L' + 1, _) (by k_mem)).1
        have N11 : News g C s₆.heap [] := by intro p hp; cases hp
        clear F9 N9 hns hm hys
        walk1
        walk1
        walk1
        walk1
        walk1
        walk1
        k_dflt (refine nCell (c := L' + 1) (o := oN) (v := .ref ln) rfl hcN dN' ?_ rfl rfl)
        k_steps
        refine Halt.out ⟨⟨_, _, rfl⟩, Ext.refl _, ?_⟩
        have e : (at1 names q).take (j + 1) = (at1 names q).take j ++ [p] := by rw [List.take_add_one, hp]; rfl
        rw [e, ← List.append_assoc, List.map_append]
        refine ints_snoc hz ?_
        show (names.length : Int) - 1 - ((names.length : Int) - 1 - (p : Int)) = (p : Int)
        omega
      · intro zs hz
        have e : asked.take (i + 1) = asked.take i ++ [q] := by rw [List.take_add_one, hq]; rfl
        rw [List.take_of_length_le (l := at1 names q) (by rw [List.size_toArray, hyl]; simp)] at hz
        rw [e, List.flatMap_append]
        simpa using hz
    · intro D h10 tk10 ys eD hR hD hD' hx
      have hss : Sub s.heap _ := Fr.tells F8 (W := []) fun b o n e => hg b o (by simp) e
      have hD0 := get_none_sub (fun b o e => hss.get e) hD
      clear N8 F8
      k_steps
      exact k _ _ D ys eD (hss.trans' hx) hD0 hD' hR
end

section
local macro_rules | `(tactic| walk_at "eval Name") => `(tactic| ((with_reducible show wpAny _ _ (eval (Expr.Name _ _) (envOf _ _ _ _ _)) _ _ _); name_kind "local"; k_dflt (refine' nLocal (Fr.ns (by k_asm)) ?hv ?_ rfl rfl; (case hv => first | exact rfl | assumption))))

-- L1o
section
variable {w : World} {mean : ExcName → Option Value} {mg mb : Str → Option Value} {h₀ : Heap} {dp un : Nat} {fr : Option (List Env)} {gd : Option (List Code)} {s : Shared} {Q E : Value → Shared → Prop}
/-- a ring is gone round: what is seen, and the places that it comes to -/
def ringGo (pl : List Nat) : Nat → List Nat → Nat → List Nat → List Nat × List Nat
  | 0, seen, _, ring => (seen, ring)
  | f + 1, seen, a, ring => if a ∈ seen then (seen, ring) else ringGo pl f (seen ++ [a]) (pl.getD a 0) (ring ++ [pl.getD a 0])
def ringStep (pl : List Nat) (st : List Nat × List (List Nat)) (start : Nat) : List Nat × List (List Nat) :=
  ((ringGo pl (pl.length + 1) st.1 start []).1, if (ringGo pl (pl.length + 1) st.1 start []).2 = [] then st.2 else st.2 ++ [(ringGo pl (pl.length + 1) st.1 start []).2])
def ringsTo (pl : List Nat) (i : Nat) : List Nat × List (List Nat) := (List.range i).foldl (ringStep pl) ([], [])
def unseen (n : Nat) (seen : List Nat) : Nat := ((List.range n).filter fun j => decide (j ∉ seen)).length
theorem unseen_le (n : Nat) (seen : List Nat) : unseen n seen ≤ n := by
  have := List.length_filter_le (fun j => decide (j ∉ seen)) (List.range n)
  simpa [unseen] using this
theorem filter_lt {α : Type} {p q : α → Bool} {l : List α} {a : α} (ha : a ∈ l) (h : ∀ x, q x = true → p x = true) (hp : p a = true) (hq : q a = false) : (l.filter q).length < (l.filter p).length := by
  induction l with
  | nil => cases ha
  | cons b r ih =>
    have mono : ∀ r : List α, (r.filter q).length ≤ (r.filter p).length := by
      intro r
      induction r with
      | nil => simp
      | cons c t ih =>
        simp only [List.filter_cons]
        cases hqc : q c with
        | false => cases p c <;> simp <;> omega
        | true => rw [h c hqc]; simp; omega
    rcases List.mem_cons.mp ha with rfl | ha
    · simp only [List.filter_cons, hp, hq, if_true, Bool.false_eq_true, if_false, List.length_cons]
      exact Nat.lt_succ_of_le (mono r)
    · have := ih ha
      simp only [List.filter_cons]
      cases hqc : q b with
      | false => cases p b <;> simp <;> omega
      | true => rw [h b hqc]; simp; omega
theorem unseen_lt {n : Nat} {seen : List Nat} {a : Nat} (ha : a < n) (hs : a ∉ seen) : unseen n (seen ++ [a]) < unseen n seen := by
  refine filter_lt (a := a) (List.mem_range.mpr ha) ?_ ?_ ?_
  · intro x hx
    simp only [List.mem_append, List.mem_singleton, not_or, decide_eq_true_eq] at hx ⊢
    exact hx.1
  · simpa using hs
  · simp
theorem rings_tells {ln lp : Addr} {vsn vsp : List Value} {en ep : Nat} {names : List Str} {pl : List Nat} (G : G1 w mean mg mb h₀) (hs : Sub h₀ s.heap) (hd : dp + 9 < recursionLimit) (hu : un + 90 < cLine) (hl : s.heap.get? ln = some (lsO vsn en)) (hvs : StrsAre vsn names)
    (hp : s.heap.get? lp = some (lsO vsp ep)) (hvp : IntsAre vsp (pl.map Int.ofNat)) (hn9 : names.length ≤ 9) (hpl : pl.length = names.length) (hlt : ∀ a ∈ pl, a < names.length)
    (k : ∀ h' tk D vs eD inner, Sub s.heap h' → s.heap.get? D = none → h'.get? D = some (lsO vs eD) → (∀ p ∈ inner, h'.get? p.1 = some p.2 ∧ s.heap.get? p.1 = none) → BagIn inner vs ((ringsTo pl names.length).2.map (·.map fun a => names.getD a default)) → Q (.ref D) { s with heap := h', toks := tk }) :
    wpAny (model Challenge.rw_nb0223_01.row.prog w) (Ar dp un fr gd) (call (.ref 264) [.ref ln, .ref lp]) Q E s := by
  have X0 := G.K
  revert X0 G
  k_fill
  intro G X0
  have I : In0 h₀ s.heap [] := ⟨hs, by simp⟩
  refine wpAny_call ?_
  walk_at "my enter"
  intro g L' h₁ hg hg0 hL F N X T
  dsimp only
  k_fold
  have hgl : g.IsList ln vsn.toArray := ⟨_, hg _ _ (by simp) hl, rfl, _, rfl⟩
  have hgp : g.IsList lp vsp.toArray := ⟨_, hg _ _ (by simp) hp, rfl, _, rfl⟩
  have hvl := hvs.length
  have hvpl := hvp.length
  k_steps
  refine Halt.out ?_
  rename_i lr _ _ lse _ _ lq _ _ _ _ _ _ _
  k_dflt (refine forN (g := g) rfl rfl rfl ?_)
  k_steps
  refine Halt.out ?_
  refine call_range_1 ?_
  (rename Fr g _ _ _ => F6); (rename News g _ _ _ => N6)
  refine Halt.out ⟨names.length, _, [], _, [(lr, lsO [] 0), (lse, lsO [] 0)],
    fun i m news => ∃ vs e ss es inner, m (Str.ofString "names") = some (.ref ln) ∧ m (Str.ofString "places") = some (.ref lp) ∧ m (Str.ofString "rings") = some (.ref lr) ∧ m (Str.ofString "seen") = some (.ref lse) ∧
      news = (lr, lsO vs e) :: (lse, lsO ss es) :: inner ∧ IntsAre ss ((ringsTo pl i).1.map Int.ofNat) ∧ BagIn inner vs ((ringsTo pl i).2.map (·.map fun a => names.getD a default)) ∧ (∀ p ∈ inner, p.1 ≠ lr ∧ p.1 ≠ lse) ∧ (ringsTo pl i).1.length + unseen names.length (ringsTo pl i).1 ≤ names.length ∧ (ringsTo pl i).2.length ≤ i,
    Src.range (IsRange.new _ _ _ _ _ _ _) rfl (by omega), by simp, F6.push _, ?_, ⟨[], 0, [], 0, [], rfl, rfl, rfl, rfl, rfl, by simpa [ringsTo] using IntsAre.nil, Paired.nil, by simp, by simpa [ringsTo] using unseen_le _ _, by simp [ringsTo]⟩, ?_, ?_⟩
  · exact fun p hp => ⟨Heap.get?_push_of_some _ (N6 p (by
      simp only [List.mem_cons, List.not_mem_nil, or_false] at hp ⊢
      rcases hp with h | h <;> simp [h])).1, (N6 p (by
      simp only [List.mem_cons, List.not_mem_nil, or_false] at hp ⊢
      rcases hp with h | h <;> simp [h])).2⟩
  · clear F6 N6
    rintro I hI hIs i v m news h tk oI E' hi ⟨ti, rfl⟩ ⟨vs, e, ss, es, inner, hm1, hm2, hm3, hm4, rfl, hss, hbag, hinn, hlen, hrg⟩ hneI F7 N7
    change Fr g L' _ _ at F7; change News g L' _ _ at N7
    k_steps
    refine Halt.out ?_
    rename_i lg _ l1 _ _ l2 _ _ _ _ _
    (rename Fr g _ _ _ => F8); (rename News g _ _ _ => N8)
    have N9 : News g L' _ ((lg, lsO [] 0) :: (lse, lsO ss es) :: (I, oI) :: (lr, lsO vs e) :: inner) := (by (repeat refine nCons (N8 _ (by k_mem)) ?_); first | exact (fun p hp => absurd hp List.not_mem_nil) | exact fun p hp => N8 p (by repeat (first | exact hp | refine List.Mem.tail _ ?_)))
    refine whileN (fun n m' news h => ∃ a t ring rs er sq ss es fuel, m' (Str.ofString "at") = some (.int (a : Nat) t) ∧ m' (Str.ofString "ring") = some (.ref lg) ∧ m' (Str.ofString "names") = some (.ref ln) ∧ m' (Str.ofString "places") = some (.ref lp) ∧ m' (Str.ofString "rings") = some (.ref lr) ∧ m' (Str.ofString "seen") = some (.ref lse) ∧
      news = ((lg, lsO rs er) :: (lse, lsO ss es) :: (I, oI) :: (lr, lsO vs e) :: inner) ∧ IntsAre ss (List.map Int.ofNat sq) ∧ StrsAre rs (List.map (fun a => names.getD a default) ring) ∧ a < names.length ∧
      ringGo pl fuel sq a ring = ringGo pl (pl.length + 1) (ringsTo pl i).1 i [] ∧ unseen names.length sq < fuel ∧ sq.length + unseen names.length sq ≤ names.length ∧ ring.length ≤ sq.length ∧ n = unseen names.length sq) (n := unseen names.length (ringsTo pl i).1) F8 N9
      ⟨i, ti, [], [], 0, _, ss, es, pl.length + 1, rfl, rfl, hm1, hm2, hm3, hm4, rfl, hss, .nil, hi, rfl, by have := unseen_le names.length (ringsTo pl i).1; omega, hlen, Nat.zero_le _, rfl⟩ ?_
    clear F8 N8 N9
    rintro n m' news h' tk' E'' F8 N8 ⟨a, ta, ring, rs, er, sq, ss', es', fuel, m1, m2, m3, m4, m5, m6, rfl, hsq, hrs, ha, hgo, hfu, hql, hrl, rfl⟩
    change Fr g L' _ _ at F8; change News g L' _ _ at N8
    k_steps
    · (rename Fr g _ _ _ => F9); (rename List.any _ _ = true => hany)
      have hmem : a ∈ sq := by
        rw [List.any_map, List.any_eq_true] at hany
        obtain ⟨x, hx, e⟩ := hany
        have e' : (Int.ofNat x : Int) = (a : Int) := by simpa using e
        have : x = a := Int.ofNat.inj e'
        exact this ▸ hx
      obtain ⟨f', rfl⟩ : ∃ f', fuel = f' + 1 := ⟨fuel - 1, by omega⟩
      have hres : ringGo pl (pl.length + 1) (ringsTo pl i).1 i [] = (sq, ring) := by rw [← hgo]; simp [ringGo, hmem]
      have hst : ringsTo pl (i + 1) = (sq, if ring = [] then (ringsTo pl i).2 else (ringsTo pl i).2 ++ [ring]) := by
        have : ringsTo pl (i + 1) = ringStep pl (ringsTo pl i) i := by simp [ringsTo, List.range_succ]
        rw [this, ringStep, hres]
      have hrl' := hrs.length
      rw [List.length_map] at hrl'
      refine wpAny_truthy_list (items := List.toArray rs) ⟨_, (N8 _ (.head _)).1, rfl, _, rfl⟩ (by rw [List.size_toArray]; omega) ?_
      have nI : ∀ p ∈ (lr, lsO vs e) :: (lse, lsO ss' es') :: inner, p.1 ≠ I := by
        refine List.forall_mem_cons.mpr ⟨?_, List.forall_mem_cons.mpr ⟨?_, fun p h => ?_⟩⟩
        · exact hneI (lr, lsO vs e) (by simp)
        · exact hneI (lse, lsO ss es) (by simp)
        · exact hneI p (by simp [h])
      cases rs with
      | nil =>
        have hr0 : ring = [] := List.length_eq_zero_iff.mp hrl'.symm
        subst hr0
        rw [if_neg (by simp)]
        k_steps
        refine Halt.out ⟨_, (lr, lsO vs e) :: (lse, lsO ss' es') :: inner, h', _, rfl, F9, (by (repeat refine nCons (N8 _ (by k_mem)) ?_); first | exact (fun p hp => absurd hp List.not_mem_nil) | exact fun p hp => N8 p (by repeat (first | exact hp | refine List.Mem.tail _ ?_))), nI, vs, e, ss', es', inner, m3, m4, m5, m6, rfl, by rw [hst]; exact hsq, by rw [hst]; exact hbag, hinn, by rw [hst]; exact hql, by rw [hst]; exact Nat.le_succ_of_le hrg⟩
      | cons r0 rr =>
        have hr0 : ring ≠ [] := by rintro rfl; simp at hrl'
        rw [if_pos (by simp)]
        k_steps
        refine Halt.out ?_
        have N9 : News g L' h' ((lr, lsO vs e) :: (lg, lsO (r0 :: rr) er) :: (lse, lsO ss' es') :: (I, oI) :: inner) := (by (repeat refine nCons (N8 _ (by k_mem)) ?_); first | exact (fun p hp => absurd hp List.not_mem_nil) | exact fun p hp => N8 p (by repeat (first | exact hp | refine List.Mem.tail _ ?_)))
        (rename Fr g _ _ _ => F9)
        refine append_N F9 N9 ?_ ?_ ?_
        · refine List.forall_mem_cons.mpr ⟨?_, List.forall_mem_cons.mpr ⟨?_, List.forall_mem_cons.mpr ⟨?_, fun p hp => ?_⟩⟩⟩
          · show @Ne Nat _ _; omega
          · show @Ne Nat _ _; omega
          · exact fun q => hneI (lr, lsO vs e) (by simp) q.symm
          · exact (hinn p hp).1
        · rw [List.size_toArray, Paired.length hbag, List.length_map]
          exact Nat.le_trans (show _ ≤ 9 by omega) (by decide)
        intro h10 e10 F10 N10
        replace N10 : News g L' h10 ((lr, lsO (vs ++ [.ref lg]) e10) :: (lg, lsO (r0 :: rr) er) :: (lse, lsO ss' es') :: (I, oI) :: inner) := by simpa using N10
        clear F9 N9 N8
        k_steps
        have hlgI : lg ≠ I := by show @Ne Nat _ _; omega
        refine Halt.out ⟨_, (lr, lsO (vs ++ [.ref lg]) e10) :: (lse, lsO ss' es') :: (inner ++ [(lg, lsO (r0 :: rr) er)]), h10, _, rfl, F10, (by (repeat refine nCons (N10 _ (by k_mem)) ?_); exact fun p hp => (List.mem_append.mp hp).elim (fun h => N10 p (by repeat (first | exact h | refine List.Mem.tail _ ?_))) fun h => by rw [List.mem_singleton.mp h]; exact N10 _ (by k_mem)), ?_, vs ++ [.ref lg], e10, ss', es', inner ++ [(lg, lsO (r0 :: rr) er)], m3, m4, m5, m6, rfl, by rw [hst]; exact hsq, ?_, ?_, by rw [hst]; exact hql, ?_⟩
        · intro p hp
          simp only [List.mem_cons, List.mem_append, List.not_mem_nil, or_false] at hp
          rcases hp with rfl | rfl | h | rfl
          · exact nI (lr, lsO vs e) (by simp)
          · exact nI (lse, lsO ss' es') (by simp)
          · exact nI p (by simp [h])
          · exact hlgI
        · rw [hst, if_neg hr0, List.map_append]
          refine Paired.snoc ?_ ⟨lg, _, er, rfl, by simp, hrs⟩
          exact paired_mono hbag fun v ss ⟨a, ws, e, h1, h2, h3⟩ => ⟨a, ws, e, h1, List.mem_append_left _ h2, h3⟩
        · intro p hp
          rcases List.mem_append.mp hp with hp | hp
          · exact hinn p hp
          · rw [List.mem_singleton.mp hp]
            exact ⟨show @Ne Nat _ _ by dsimp only; omega, show @Ne Nat _ _ by dsimp only; omega⟩
        · rw [hst, if_neg hr0, List.length_append]
          exact Nat.add_le_add hrg (Nat.le_refl 1)
    · refine Halt.out ?_
      (rename Fr g _ _ _ => F9); (rename List.any _ _ = false => hany)
      have hmem : a ∉ sq := by
        intro hx
        rw [List.any_map, List.any_eq_false] at hany
        exact hany a hx (by simp)
      obtain ⟨f', rfl⟩ : ∃ f', fuel = f' + 1 := ⟨fuel - 1, by omega⟩
      rw [ringGo, if_neg hmem] at hgo
      have hun := unseen_lt ha hmem
      have N9 : News g L' h' ((lse, lsO ss' es') :: (lg, lsO rs er) :: (I, oI) :: (lr, lsO vs e) :: inner) := (by (repeat refine nCons (N8 _ (by k_mem)) ?_); first | exact (fun p hp => absurd hp List.not_mem_nil) | exact fun p hp => N8 p (by repeat (first | exact hp | refine List.Mem.tail _ ?_)))
      refine append_N F9 N9 ?_ ?_ ?_
      · refine List.forall_mem_cons.mpr ⟨?_, List.forall_mem_cons.mpr ⟨?_, List.forall_mem_cons.mpr ⟨?_, fun p hp => ?_⟩⟩⟩
        · show @Ne Nat _ _; omega
        · exact fun q => hneI (lse, lsO ss es) (by simp) q.symm
        · show @Ne Nat _ _; omega
        · exact (hinn p hp).2
      · rw [List.size_toArray, hsq.length, List.length_map]; exact Nat.le_trans (show sq.length ≤ 9 by omega) (by decide)
      intro h10 e10 F10 N10
      have hsq' : IntsAre (ss' ++ [.int (a : Nat) ta]) (List.map Int.ofNat (sq ++ [a])) := by rw [List.map_append]; exact ints_snoc hsq rfl
      clear F9 N9 N8
      have hpa : a < pl.length := by omega
      have hgd : (List.map Int.ofNat pl).getD (Int.toNat (a : Int)) 0 = ((pl.getD a 0 : Nat) : Int) := by
        rw [Int.toNat_natCast, List.getD_eq_getElem?_getD, List.getD_eq_getElem?_getD, List.getElem?_map, List.getElem?_eq_getElem hpa]; rfl
      have hb : pl.getD a 0 < names.length := by
        rw [List.getD_eq_getElem?_getD, List.getElem?_eq_getElem hpa]
        exact hlt _ (List.getElem_mem hpa)
      k_steps
      (rename Fr g _ _ _ => F11); (rename News g _ _ _ => N11)
      rw [hgd] at F11
      rw [hgd]
      generalize hb' : pl.getD a 0 = b at F11 hb hgo ⊢
      (try k_steps)
      refine Halt.out ?_
      (rename StrsAre rs _ => hrs)
      (rename Fr g _ _ _ => F12); (rename News g _ _ _ => N12)
      have hnb : names.getD ((b : Nat) : Int).toNat Str.empty = names.getD b default := by
        rw [Int.toNat_natCast, List.getD_eq_getElem?_getD, List.getD_eq_getElem?_getD, List.getElem?_eq_getElem hb]; rfl
      have N13 : News g L' _ ((lg, lsO rs er) :: (lse, lsO (ss' ++ [.int (a : Nat) ta]) e10) :: (I, oI) :: (lr, lsO vs e) :: inner) := fun p hp => N12 p (by
        simp only [List.mem_cons] at hp ⊢
        rcases hp with h | h | h | h | h <;> simp [h])
      refine append_N F12 N13 ?_ ?_ ?_
      · refine List.forall_mem_cons.mpr ⟨?_, List.forall_mem_cons.mpr ⟨?_, List.forall_mem_cons.mpr ⟨?_, fun p hp => ?_⟩⟩⟩
        · show @Ne Nat _ _; omega
        · show @Ne Nat _ _; omega
        · show @Ne Nat _ _; omega
        · exact Nat.ne_of_lt (allLt_mem l1.2.2.2 p hp)
      · rw [List.size_toArray, hrs.length, List.length_map]; exact Nat.le_trans (show ring.length ≤ 9 by omega) (by decide)
      intro h14 e14 F14 N14
      clear F12 N12 N13
      k_steps
      refine Halt.out ⟨rfl, unseen names.length (sq ++ [a]), _, _, h14, _, hun, rfl, F14, N14, b, _, ring ++ [b], rs ++ [.str (names.getD ((b : Nat) : Int).toNat Str.empty) _], e14, sq ++ [a], ss' ++ [.int (a : Nat) ta], e10, f', rfl, m2, m3, m4, m5, m6, by (simp; rfl), hsq', ?_, hb, hgo, by omega, by simp; omega, by simp; omega, rfl⟩
      rw [List.map_append]
      refine StrsAre.append' hrs ?_
      simp only [List.map_cons, List.map_nil, ← hnb]
      exact .cons _ _ .nil
  · rintro m news h tk ⟨vs, e, ss, es, inner, hm1, hm2, hm3, hm4, rfl, hss, hbag, hinn, hlen, hrg⟩ F7 N7
    clear F6 N6
    change Fr g L' _ _ at F7; change News g L' _ _ at N7
    k_steps
    (rename Fr g _ _ _ => F8)
    have hss : Sub s.heap _ := Fr.tells F8 (W := []) fun b o n e => hg b o (by simp) e
    have fz : ∀ a, g.get? a = none → s.heap.get? a = none := fun a e => get_none_sub (fun b o e => hg b o (by simp) e) e
    exact k h _ lr vs e inner hss (fz _ (N7 _ (.head _)).2.2) (N7 _ (.head _)).1 (fun p hp => ⟨(N7 p (.tail _ (.tail _ hp))).1, fz _ (N7 p (.tail _ (.tail _ hp))).2.2⟩) hbag
end

end

section
local macro_rules | `(tactic| walk_at "eval Name") => `(tactic| ((with_reducible show wpAny _ _ (eval (Expr.Name _ _) (compEnvC _ _ _ _)) _ _ _); k_dflt (first
  | (refine' nLocal ?h ?v ?_ ?a ?b; (case a => rfl); (case b => rfl); (case h => assumption); (case v => assumption); k_whole)
  | (refine' nGlob ?G ?S ?e ?_ ?g ?a ?b; (case a => rfl); (case b => rfl); (case g => rfl); (case G => assumption); (case S => assumption); (case e => k_is); k_whole)
  | (refine' nBuilt ?G ?S ?e ?v ?n ?_ ?g ?h ?a ?b; (case a => rfl); (case b => rfl); (case g => rfl); (case h => rfl); (case G => assumption); (case S => assumption); (case e => k_is); (case v => boot_fast); (case n => decide); k_whole))))
local macro_rules | `(tactic| walk_at "eval Name") => `(tactic| ((with_reducible show wpAny _ _ (eval (Expr.Name _ _) (compEnvC _ _ _ _)) _ _ _); k_dflt (first
  | (refine' nLocal ?h ?v ?_ ?a ?b; (case a => rfl); (case b => rfl); (case h => assumption); (case v => assumption); k_whole)
  | (refine' nGlob ?G ?S ?e ?_ ?g ?a ?b; (case a => rfl); (case b => rfl); (case g => rfl); (case G => assumption); (case S => assumption); (case e => k_is); k_whole)
  | (refine' nBuilt ?G ?S ?e ?v ?n ?_ ?g ?h ?a ?b; (case a => rfl); (case b => rfl); (case g => rfl); (case h => rfl); (case G => assumption); (case S => assumption); (case e => k_is); (case v => boot_fast); (case n => decide); k_whole))))

-- L1p
section
variable {w : World} {mean : ExcName → Option Value} {mg mb : Str → Option Value} {h₀ : Heap} {dp un : Nat} {fr : Option (List Env)} {gd : Option (List Code)} {s : Shared} {Q E : Value → Shared → Prop}
theorem itemB_latin (l : List UInt8) : itemB (latin l) = (l.length.toUInt8 :: l).toArray := by
  simp [itemB, latin, byteArr, PySem.Str.length]
  refine List.ext_getElem (by simp) ?_
  intro i h1 h2
  simp
def rotL {α : Type} (l : List α) (k : Nat) : List α := l.drop k ++ l.take k
theorem strs_drop {vs : List Value} {xs : List Str} (h : StrsAre vs xs) : ∀ j, StrsAre (vs.drop j) (xs.drop j) := by
  induction h with
  | nil => intro j; simpa using StrsAre.nil
  | cons x t h ih =>
    intro j
    cases j with
    | zero => exact .cons x t h
    | succ j => exact ih j
theorem strs_take {vs : List Value} {xs : List Str} (h : StrsAre vs xs) : ∀ j, StrsAre (vs.take j) (xs.take j) := by
  induction h with
  | nil => intro j; simpa using StrsAre.nil
  | cons x t h ih =>
    intro j
    cases j with
    | zero => exact .nil
    | succ j => exact .cons x t (ih j)
theorem encB_eq (xs : List (List UInt8)) : (xs.map fun x => x.length.toUInt8 :: x).flatten = encB xs := by simp [encB, List.flatMap]
theorem rotL_len {α : Type} (l : List α) (k : Nat) (h : k ≤ l.length) : (rotL l k).length = l.length := by simp [rotL]; omega
theorem laid_tells {lg : Addr} {ws : List Value} {eg : Nat} {ring : List (List UInt8)} {z : Int} {tz : Tok} (G : G1 w mean mg mb h₀) (hs : Sub h₀ s.heap) (hd : dp + 9 < recursionLimit) (hu : un + 90 < cLine) (hl : s.heap.get? lg = some (lsO ws eg)) (hws : StrsAre ws (ring.map latin))
    (hn : 0 < ring.length) (hn9 : ring.length ≤ 9) (hx : ∀ x ∈ ring, x.length ≤ 2)
    (k : ∀ h' tk t, Sub s.heap h' → Q (.bytes (ring.length.toUInt8 :: encB (rotL ring (z % ring.length).toNat)).toArray t) { s with heap := h', toks := tk }) :
    wpAny (model Challenge.rw_nb0223_01.row.prog w) (Ar dp un fr gd) (call (.ref 269) [.ref lg, .int z tz]) Q E s := by
  have X0 := G.K
  revert X0 G
  k_fill
  intro G X0
  have I : In0 h₀ s.heap [] := ⟨hs, by simp⟩
  refine wpAny_call ?_
  walk_at "my enter"
  intro g L' h₁ hg hg0 hL F N X T
  dsimp only
  k_fold
  have hgl : g.IsList lg ws.toArray := ⟨_, hg _ _ (by simp) hl, rfl, _, rfl⟩
  have hrot0 : ∀ j, StrsAre (ws.drop j ++ ws.take j) ((rotL ring j).map latin) := fun j => by
    rw [rotL, List.map_append, List.map_drop, List.map_take]
    exact StrsAre.append' (strs_drop hws j) (strs_take hws j)
  have hxl : (ring.map latin).length = ring.length := List.length_map _
  generalize hxs : ring.map latin = xs at hws hxl
  have hvl := hws.length
  have h1 : 0 < xs.length := by omega
  have h2 : xs.length ≤ 9 := by omega
  k_steps
  (rename News g _ _ _ => N3); (rename Fr g _ _ _ => F3)
  dsimp only at N3 F3 ⊢
  obtain ⟨j, hj, hjn⟩ : ∃ j : Nat, z.fmod (xs.length : Int) = (j : Int) ∧ j < xs.length := by
    refine ⟨(z % (xs.length : Int)).toNat, ?_, ?_⟩
    · rw [Int.fmod_eq_emod_of_nonneg _ (by omega), Int.toNat_of_nonneg (Int.emod_nonneg _ (by omega))]
    · have := Int.emod_lt_of_pos z (show (0 : Int) < xs.length by omega)
      have := Int.emod_nonneg z (show (xs.length : Int) ≠ 0 by omega)
      omega
  have hwx : ws.length = xs.length := hvl
  rw [hj, slicePick_from _ _ (by simp; omega), slicePick_upto _ _ (by simp; omega)] at N3
  have hl1 := (N3 _ (.tail _ (.head _))).1
  have hl2 := (N3 _ (.head _)).1
  refine add_lists (vs := ws.drop j) (ws := ws.take j) F3 N3 ⟨_, hl1, rfl, _, rfl⟩ ⟨_, hl2, rfl, _, rfl⟩ ?_ ?_
  · intro h4 F4 N4
    clear F3 N3 hl1 hl2
    have N5 : News g L' h4 [(_, lsO (ws.drop j ++ ws.take j) 0)] := fun p hp => N4 p (by
      rw [List.mem_singleton.mp hp]; exact .head _)
    clear N4
    generalize Array.size _ = lt at N5 ⊢
    k_steps
    refine getMethod_builtin (typeIs_bytes _ _ _) FB.plainAttrs_bytes slot_bytes_join type_bytes_join (fun _ e => nomatch e) ?_
    k_steps
    refine Halt.out ?_
    (rename Fr g _ _ _ => F6); (rename News g _ _ _ => N6)
    k_dflt (refine comp1S (cl := []) (fun i ys => BytesAre ys (((rotL ring j).take i).map fun x => x.length.toUInt8 :: x)) rfl rfl (by decide) rfl (by decide) rfl (by simp only [List.take_zero, List.map_nil]; exact Paired.nil) ?_)
    k_steps
    have hlt := (N6 (lt, _) (by k_mem)).1
    have hrot := hrot0 j
    have hrl : (ws.drop j ++ ws.take j).length = ring.length := by simp; omega
    refine Halt.out ⟨_, _, _, Src.list (items := List.toArray (ws.drop j ++ ws.take j)) ⟨_, hlt, rfl, _, rfl⟩, ?_, ?_, ?_, ?_⟩
    · rw [List.size_toArray, hrl]; exact Nat.le_trans hn9 (by decide)
    · intro b hb; rw [List.mem_singleton.mp hb]; exact Heap.lt_size hlt
    · intro i v ys s₃ C m₃ E3 hi hP hR hmv hx3 hns hm hlen
      refine wpAny_tests_nil ?_
      simp only [if_true]
      refine ⟨Mv.refl _, Ext.refl _, ?_⟩
      have hsub : Sub h₀ s₃.heap := (hg0.trans' (Sub.of F6.keep)).trans' hx3
      obtain ⟨x, tx, hx1, rfl⟩ := strs_at hrot (by simpa using hP)
      rw [List.getElem?_map] at hx1
      obtain ⟨o, ho, rfl⟩ : ∃ o, (rotL ring j)[i]? = some o ∧ x = latin o := by
        cases hq : (rotL ring j)[i]? with
        | none => rw [hq] at hx1; cases hx1
        | some o => rw [hq] at hx1; exact ⟨o, rfl, (Option.some.inj hx1).symm⟩
      have hom : o ∈ ring := by
        have := List.mem_of_getElem? ho
        rcases List.mem_append.mp this with h | h
        · exact List.mem_of_mem_drop h
        · exact List.mem_of_mem_take h
      have ho2 := hx o hom
      have XK : (hd1.heap_39 w.params).In s₃.heap := fun a o e => hsub.get (G.K a o e)
      k_steps
      refine Halt.out ?_
      refine item_tells G hsub ?_ ?_ ?_ ?_ ?_
      · show dp + 1 + 3 < _; omega
      · show un + 3 + 30 < _; omega
      · intro c hc
        simp only [latin, List.mem_map] at hc
        obtain ⟨u, -, rfl⟩ := hc
        exact u.toNat_lt
      · simp [latin, PySem.Str.length]; omega
      intro h7 tk7 t7 x7
      rw [itemB_latin]
      refine Halt.out ⟨⟨_, _, rfl⟩, x7, ?_⟩
      rw [List.take_add_one, ho, List.map_append]
      exact Paired.snoc hR ⟨_, rfl⟩
    · intro D h7 tk7 ys e7 hR hlen hD hp hext
      obtain ⟨F8, N8⟩ := news_add F6 N6 hext hD hp
      clear F6 N6
      k_steps
      rw [List.size_toArray, hrl, List.take_of_length_le (by rw [rotL_len _ _ (by omega)]; exact Nat.le_refl _)] at hR
      have hme : ∀ x ∈ rotL ring j, x.length ≤ 2 := fun x hm => hx x (by
        rcases List.mem_append.mp hm with h | h
        · exact List.mem_of_mem_drop h
        · exact List.mem_of_mem_take h)
      have hel := encB_len hme
      rw [rotL_len _ _ (by omega)] at hel
      refine join_bytes (N8 _ (.head _)).1 hR (by rw [encB_eq]; omega) ?_
      intro t9 k9
      rw [encB_eq]
      k_steps
      refine bytes_add_K (b := [(xs.length : Int).toNat.toUInt8]) (c := encB (rotL ring j)) (d := ring.length.toUInt8 :: encB (rotL ring j)) (by simp; omega) (by rw [Int.toNat_natCast, hxl]; rfl) ?_
      intro t10 k10
      have hej : (z % (ring.length : Int)).toNat = j := by
        rw [← hxl, ← Int.fmod_eq_emod_of_nonneg _ (by omega), hj, Int.toNat_natCast]
      rw [← hej]
      exact k _ _ _ (Fr.tells F8 (W := []) fun b o n e => hg b o (by simp) e)
  · rw [List.length_drop, List.length_take]; exact Nat.le_trans (show _ ≤ 9 by omega) (by decide)
end

section
local macro_rules | `(tactic| walk_at "exec Assign") => `(tactic| ((with_reducible show wpAny _ _ (exec (Stmt.Assign [Expr.Name _ _] (Expr.ListComp _ _ _ _) _) _) _ _ _); refine halt ?_))
local macro_rules | `(tactic| walk_at "eval Name") => `(tactic| ((with_reducible show wpAny _ _ (eval (Expr.Name _ _) (envOf _ _ _ _ _)) _ _ _); name_kind "local"; k_dflt (refine' nLocal (Fr.ns (by k_asm)) ?hv ?_ rfl rfl; (case hv => first | exact rfl | assumption))))
local macro_rules | `(tactic| walk_at "subscriptTail") => `(tactic| ((with_reducible show wpAny _ _ (subscriptTail _ (Expr.Slice _ _ none _) (Value.ref _) (Value.ref _)) _ _ _); refine halt ?_))
local macro_rules | `(tactic| walk_at "subscriptTail Name Slice ref ref") => `(tactic| (refine halt ?_))
local macro_rules | `(tactic| walk_at "subscriptTail BinOp Slice ref ref") => `(tactic| (refine halt ?_))
local macro_rules | `(tactic| walk_at "binaryOp Add ref ref") => `(tactic| (refine halt ?_))
local macro_rules | `(tactic| walk_at "binaryOp Mult ref int") => `(tactic| (refine halt ?_))
local macro_rules | `(tactic| walk_at "compareOp Eq ref ref") => `(tactic| (refine halt ?_))

-- L1q
section
variable {w : World} {mean : ExcName → Option Value} {mg mb : Str → Option Value} {h₀ : Heap} {dp un : Nat} {fr : Option (List Env)} {gd : Option (List Code)} {s : Shared} {Q E : Value → Shared → Prop}
/-- the eight names, as octets -/
def noms : List (List UInt8) := [[], [97], [65], [97, 98], [97, 66], [98], [233], [201]]
/-- a name's place among the five, great and small letters alike -/
def rank (x : List UInt8) : Int := if x = [] then 0 else if x = [97] ∨ x = [65] then 1 else if x = [97, 98] ∨ x = [97, 66] then 2 else if x = [98] then 3 else 4
def repT (l : List Int) (n : Nat) : List Int := ((List.replicate n l).flatten).take n
/-- the rows of a ring: each turn, taken over and over, with the name that ends it -/
def rowsTo (ring : List (List UInt8)) (n i : Nat) : List (List Int × Str) := (List.range i).map fun k => (repT (rotL (ring.map rank) k) n, latin (ring.getD ((k + ring.length - 1) % ring.length) []))
/-- rows, told by their objects -/
def RowsIn (inner : List (Addr × Obj)) (vs : List Value) (rows : List (List Int × Str)) : Prop := Paired (fun v (r : List Int × Str) => ∃ a b ws e t, v = Value.ref a ∧ (a, tpO [.ref b, .str r.2 t]) ∈ inner ∧ (b, lsO ws e) ∈ inner ∧ IntsAre ws r.1) vs rows
theorem ints_app {vs ws : List Value} {ns ms : List Int} (h : IntsAre vs ns) (h' : IntsAre ws ms) : IntsAre (vs ++ ws) (ns ++ ms) := by
  induction h with
  | nil => exact h'
  | cons a t _ ih => exact .cons a t ih
theorem ints_rep {vs : List Value} {ns : List Int} (h : IntsAre vs ns) : ∀ n : Nat, IntsAre ((List.replicate n vs).flatten) ((List.replicate n ns).flatten)
  | 0 => .nil
  | n + 1 => by simpa [List.replicate_succ] using ints_app h (ints_rep h n)
theorem rows_tells {lg : Addr} {ws : List Value} {eg : Nat} {ring : List (List UInt8)} {z : Int} {n : Nat} {tz : Tok} (G : G1 w mean mg mb h₀) (hs : Sub h₀ s.heap) (hd : dp + 9 < recursionLimit) (hu : un + 90 < cLine) (hl : s.heap.get? lg = some (lsO ws eg)) (hws : StrsAre ws (ring.map latin))
    (hn : 0 < ring.length) (hn9 : ring.length ≤ 9) (hx : ∀ x ∈ ring, x ∈ noms) (hz : z = (n : Int)) (hz9 : n ≤ 9)
    (hprim : ∀ k, 0 < k → k < ring.length → rotL (ring.map rank) k ≠ ring.map rank)
    (k : ∀ h' tk D vs eD inner, Sub s.heap h' → s.heap.get? D = none → h'.get? D = some (lsO vs eD) → (∀ p ∈ inner, h'.get? p.1 = some p.2 ∧ s.heap.get? p.1 = none) → RowsIn inner vs (rowsTo ring n ring.length) → Q (.ref D) { s with heap := h', toks := tk }) :
    wpAny (model Challenge.rw_nb0223_01.row.prog w) (Ar dp un fr gd) (call (.ref 274) [.ref lg, .int z tz]) Q E s := by
  have X0 := G.K
  revert X0 G
  k_fill
  intro G X0
  have I : In0 h₀ s.heap [] := ⟨hs, by simp⟩
  refine wpAny_call ?_
  walk_at "my enter"
  intro g L' h₁ hg hg0 hL F N X T
  dsimp only
  k_fold
  have hgl : g.IsList lg ws.toArray := ⟨_, hg _ _ (by simp) hl, rfl, _, rfl⟩
  have hvl := hws.length
  rw [List.length_map] at hvl
  walk1
  (rename Fr g _ _ _ => F1); (rename News g _ _ _ => N1)
  k_dflt (refine comp1SA (cl := []) (fun i ys => IntsAre ys ((ring.take i).map rank)) rfl rfl rfl (by decide) rfl (by decide) rfl rfl rfl (by simpa using IntsAre.nil) ?_)
  walk1
  have hll := F1.keep _ _ (hg _ _ (by simp) hl)
  refine Halt.out ⟨_, _, _, _, g, _, Src.list (items := List.toArray ws) ⟨_, hll, rfl, _, rfl⟩, ?_, ?_, F1, N1, ?_, ?_⟩
  · rw [List.size_toArray, hvl]; exact Nat.le_trans hn9 (by decide)
  · intro b hb; rw [List.mem_singleton.mp hb]; exact Heap.lt_size hll
  · intro i v ys s₃ C m₃ E3 hi hP hR hmv hx3 hns hm hlen hC
    refine wpAny_tests_nil ?_
    simp only [if_true]
    refine ⟨Mv.refl _, Low.refl _, ?_⟩
    have hsub : Sub h₀ s₃.heap := (hg0.trans' (Sub.of F1.keep)).trans' hx3
    obtain ⟨x, tx, hx1, rfl⟩ := strs_at hws (by simpa using hP)
    rw [List.getElem?_map] at hx1
    obtain ⟨o, ho, rfl⟩ : ∃ o, ring[i]? = some o ∧ x = latin o := by
      cases hq : ring[i]? with
      | none => rw [hq] at hx1; cases hx1
      | some o => rw [hq] at hx1; exact ⟨o, rfl, (Option.some.inj hx1).symm⟩
    have hom := hx o (List.mem_of_getElem? ho)
    have XK : (hd1.heap_39 w.params).In s₃.heap := fun a o e => hsub.get (G.K a o e)
    have F9 := low_frame hns
    have N9 : News (lowH s₃.heap C) C s₃.heap [] := by intro p hp; cases hp
    have G9 := G.sub ((hg0.trans' (Sub.of F1.keep)).trans' (low_sub hx3 hC))
    have X9 := G9.K
    have T9 := G9.T
    generalize hgl9 : lowH s₃.heap C = g9 at F9 N9 G9 X9 T9
    simp only [noms, List.mem_cons, List.not_mem_nil, or_false] at hom
    clear F1 N1 hx3 hmv hlen hP hx1 hns hll hC
    k_steps
    (rename Fr g9 C _ _ => F10); (rename News g9 C _ _ => N10)
    k_dflt (refine nLocal F10.ns hm ?_ rfl rfl)
    clear hm
    (rename Obj.IsDictOf _ _ _ => hdi)
    refine sub_dictP (n := rank o) (N10 _ (.head _)).1 hdi ?_ ?_
    · clear hdi N10 F10
      rcases hom with rfl | rfl | rfl | rfl | rfl | rfl | rfl | rfl <;> exact ⟨_, rfl⟩
    · intro t'
      subst hgl9
      refine Halt.out ⟨⟨_, _, rfl⟩, low_keep F10, ⟨_, F10.ns⟩, ?_⟩
      · rw [List.take_add_one, ho, List.map_append]
        exact ints_snoc hR rfl
  · intro D h7 tk7 ys e7 hR hlen hD hold F8 N8
    rw [List.size_toArray, hvl, List.take_of_length_le (Nat.le_refl _)] at hR
    clear F1 N1 hlen
    have hrl := hR.length
    have hxl : (ring.map rank).length = ring.length := List.length_map _
    generalize hrk : ring.map rank = rks at hR hprim hrl hxl
    change Fr g L' _ _ at F8; change News g L' _ _ at N8
    have hxl2 : (ring.map latin).length = ring.length := List.length_map _
    have hat : ∀ i, i < ring.length → (ring.map latin).getD i Str.empty = latin (ring.getD i []) := fun i hi => by
      rw [List.getD_eq_getElem?_getD, List.getD_eq_getElem?_getD, List.getElem?_map, List.getElem?_eq_getElem hi]; rfl
    generalize hxs : ring.map latin = xs at hws hxl2 hat
    have h1 : 0 < xs.length := by omega
    have h2 : xs.length ≤ 9 := by omega
    k_steps
    refine Halt.out ?_
    rename_i lw _ l1 _ _ _
    k_dflt (refine forN (g := g) rfl rfl rfl ?_)
    k_steps
    refine Halt.out ?_
    refine call_range_1 ?_
    (rename Fr g _ _ _ => F9); (rename News g _ _ _ => N9)
    refine Halt.out ⟨xs.length, _, [], _, [(lw, lsO [] 0), (D, lsO ys e7)],
      fun i m news => ∃ vs e inner, m (Str.ofString "ring") = some (.ref lg) ∧ m (Str.ofString "size") = some (.int z tz) ∧ m (Str.ofString "ranks") = some (.ref D) ∧ m (Str.ofString "rows") = some (.ref lw) ∧
        news = (lw, lsO vs e) :: (D, lsO ys e7) :: inner ∧ RowsIn inner vs (rowsTo ring n i) ∧ (∀ p ∈ inner, p.1 ≠ lw ∧ p.1 ≠ D),
      Src.range (IsRange.new _ _ _ _ _ _ _) rfl (by omega), by simp, F9.push _, ?_, ⟨[], 0, [], rfl, rfl, rfl, rfl, rfl, Paired.nil, by simp⟩, ?_, ?_⟩
    · exact fun p hp => ⟨Heap.get?_push_of_some _ (N9 p hp).1, (N9 p hp).2⟩
    · clear F9 N9
      rintro I hI hIs i v m news h tk oI E' hi ⟨ti, rfl⟩ ⟨vs, e, inner, hm1, hm2, hm3, hm4, rfl, hrows, hinn⟩ hneI F9 N9
      change Fr g L' _ _ at F9; change News g L' _ _ at N9
      have hys9 : ys.length ≤ 9 := by omega
      k_steps
      refine Halt.out ?_
      refine lsl_from (s := ⟨_, _, _, _, _⟩) F9 N9 (News.isList N9 (show (D, lsO ys e7) ∈ _ by k_mem)) rfl (by omega) (by omega) ?_
      intro D1 h1 F10 N10 l10
      clear F9 N9
      k_steps
      refine Halt.out ?_
      refine lsl_to (s := ⟨_, _, _, _, _⟩) F10 N10 (News.isList N10 (show (D, lsO ys e7) ∈ _ by k_mem)) rfl (by omega) ?_
      intro D2 h2 F11 N11 l11
      clear F10 N10
      k_steps
      refine Halt.out ?_
      refine ladd F11 N11 (News.isList N11 (show (D1, _) ∈ _ by k_mem)) (News.isList N11 (show (D2, _) ∈ _ by k_mem)) (by rw [List.length_drop, List.length_take]; omega) ?_
      intro lt h3 F12 N12 l12
      have N13 : News g L' h3 ((lt, lsO (ys.drop i ++ ys.take i) 0) :: (I, oI) :: (lw, lsO vs e) :: (D, lsO ys e7) :: inner) := (by (repeat refine nCons (N12 _ (by k_mem)) ?_); first | exact (fun p hp => absurd hp List.not_mem_nil) | exact fun p hp => N12 p (by repeat (first | exact hp | refine List.Mem.tail _ ?_)))
      clear F11 N11 N12
      have hrt : IntsAre (ys.drop i ++ ys.take i) (rotL rks i) := ints_app (hR.drop i) (hR.take i)
      have hnm : ∀ {z : Int} {q : Nat}, z.toNat = q ∧ q = (i + ring.length - 1) % ring.length → xs.getD z.toNat Str.empty = latin (ring.getD ((i + ring.length - 1) % ring.length) []) := fun {z q} h => by
        rw [h.1, h.2]; exact hat _ (Nat.mod_lt _ hn)
      have hrtl : (ys.drop i ++ ys.take i).length = ys.length := by simp; omega
      k_steps
      · refine Halt.out ?_
        (rename Fr g _ _ _ => F13); (rename News g _ _ _ => N13'); (rename 0 < (_ : Int) => hpos)
        refine ke_eq_ints (News.isList N13' (show (lt, lsO (ys.drop i ++ ys.take i) 0) ∈ _ by k_mem)) (News.isList N13' (show (D, lsO ys e7) ∈ _ by k_mem)) hrt hR ?_ ?_
        · show un + 3 + 64 < _; omega
        rw [decide_eq_false (hprim i (by omega) (by omega))]
        k_steps
        refine Halt.out ?_
        (rename Fr g _ _ _ => F14); (rename News g _ _ _ => N14)
        refine lmul F14 N14 (News.isList N14 (show (lt, lsO (ys.drop i ++ ys.take i) 0) ∈ _ by k_mem)) hz (by omega) (by omega) ?_
        intro D4 h4 F15 N15 l15
        clear F14 N14
        have hrep := ints_rep hrt n
        have hrepl : ((List.replicate n (ys.drop i ++ ys.take i)).flatten).length ≤ 100 := by
          rw [List.length_flatten, List.map_replicate, List.sum_replicate_nat, hrtl]
          exact Nat.le_trans (Nat.mul_le_mul hz9 hys9) (by decide)
        k_steps
        refine Halt.out ?_
        refine lsl_to (s := ⟨_, _, _, _, _⟩) F15 N15 (News.isList N15 (show (D4, _) ∈ _ by k_mem)) hz (by omega) ?_
        intro D5 h5 F16 N16 l16
        have N17 : News g L' h5 ((D5, lsO ((List.replicate n (ys.drop i ++ ys.take i)).flatten.take n) 0) :: (I, oI) :: (lw, lsO vs e) :: (D, lsO ys e7) :: inner) := (by (repeat refine nCons (N16 _ (by k_mem)) ?_); first | exact (fun p hp => absurd hp List.not_mem_nil) | exact fun p hp => N16 p (by repeat (first | exact hp | refine List.Mem.tail _ ?_)))
        have hkey : IntsAre ((List.replicate n (ys.drop i ++ ys.take i)).flatten.take n) (repT (rotL rks i) n) := hrep.take n
        clear F15 N15 N16
        k_steps
        refine Halt.out ?_
        rename_i tT DT _ _ _ lT
        (rename Fr g _ _ _ => F18); (rename News g _ _ _ => N18)
        rw [hnm ⟨show Int.toNat ((i : Int) - 1) = i - 1 by omega, by rw [show i + ring.length - 1 = (i - 1) + ring.length by omega, Nat.add_mod_right, Nat.mod_eq_of_lt (by omega)]⟩] at N18
        have N19 : News g L' _ ((lw, lsO vs e) :: (DT, tpO [.ref D5, .str (latin (ring.getD ((i + ring.length - 1) % ring.length) [])) tT]) :: (D5, lsO ((List.replicate n (ys.drop i ++ ys.take i)).flatten.take n) 0) :: (I, oI) :: (D, lsO ys e7) :: inner) := (by (repeat refine nCons (N18 _ (by k_mem)) ?_); first | exact (fun p hp => absurd hp List.not_mem_nil) | exact fun p hp => N18 p (by repeat (first | exact hp | refine List.Mem.tail _ ?_)))
        have hD5 : lw < D5 := l16 (lw, lsO vs e) (by simp)
        have hD5D : D < D5 := l16 (D, lsO ys e7) (by simp)
        have hD5I : I < D5 := l16 (I, oI) (by simp)
        refine append_N F18 N19 ?_ ?_ ?_
        · refine List.forall_mem_cons.mpr ⟨?_, List.forall_mem_cons.mpr ⟨?_, List.forall_mem_cons.mpr ⟨?_, List.forall_mem_cons.mpr ⟨?_, fun p hp => ?_⟩⟩⟩⟩
          · show @Ne Nat _ _; omega
          · show @Ne Nat _ _; exact Nat.ne_of_gt hD5
          · exact fun q => hneI (lw, lsO vs e) (by simp) q.symm
          · show @Ne Nat _ _; exact Nat.ne_of_lt l1
          · exact (hinn p hp).1
        · rw [List.size_toArray, Paired.length hrows]; simp only [rowsTo, List.length_map, List.length_range]; exact Nat.le_trans (show i ≤ 9 by omega) (by decide)
        intro h20 e20 F20 N20
        replace N20 : News g L' h20 ((lw, lsO (vs ++ [.ref DT]) e20) :: (DT, tpO [.ref D5, .str (latin (ring.getD ((i + ring.length - 1) % ring.length) [])) tT]) :: (D5, lsO ((List.replicate n (ys.drop i ++ ys.take i)).flatten.take n) 0) :: (I, oI) :: (D, lsO ys e7) :: inner) := by simpa using N20
        clear F18 N18 N19
        k_steps
        refine Halt.out ⟨_, (lw, lsO (vs ++ [.ref DT]) e20) :: (D, lsO ys e7) :: ((DT, tpO [.ref D5, .str (latin (ring.getD ((i + ring.length - 1) % ring.length) [])) tT]) :: (D5, lsO ((List.replicate n (ys.drop i ++ ys.take i)).flatten.take n) 0) :: inner), h20, _, rfl, F20, (by (repeat refine nCons (N20 _ (by k_mem)) ?_); first | exact (fun p hp => absurd hp List.not_mem_nil) | exact fun p hp => N20 p (by repeat (first | exact hp | refine List.Mem.tail _ ?_))), ?_, vs ++ [.ref DT], e20, _, hm1, hm2, hm3, hm4, rfl, ?_, ?_⟩
        · refine List.forall_mem_cons.mpr ⟨?_, List.forall_mem_cons.mpr ⟨?_, List.forall_mem_cons.mpr ⟨?_, List.forall_mem_cons.mpr ⟨?_, fun p hp => ?_⟩⟩⟩⟩
          · exact hneI (lw, lsO vs e) (by simp)
          · exact hneI (D, lsO ys e7) (by simp)
          · show @Ne Nat _ _; omega
          · exact Nat.ne_of_gt hD5I
          · exact hneI p (by simp [hp])
        · have : rowsTo ring n (i + 1) = rowsTo ring n i ++ [(repT (rotL rks i) n, latin (ring.getD ((i + ring.length - 1) % ring.length) []))] := by
            simp only [rowsTo, List.range_succ, List.map_append, List.map_cons, List.map_nil, hrk]
          rw [this]
          refine Paired.snoc (paired_mono hrows fun v r ⟨a, b, ws, e, t, h1, h2, h3, h4⟩ => ⟨a, b, ws, e, t, h1, List.mem_cons_of_mem _ (List.mem_cons_of_mem _ h2), List.mem_cons_of_mem _ (List.mem_cons_of_mem _ h3), h4⟩) ?_
          exact ⟨DT, D5, _, 0, tT, rfl, List.mem_cons_self, List.mem_cons_of_mem _ List.mem_cons_self, hkey⟩
        · refine List.forall_mem_cons.mpr ⟨?_, List.forall_mem_cons.mpr ⟨?_, fun p hp => ?_⟩⟩
          · exact ⟨show @Ne Nat _ _ by dsimp only; omega, show @Ne Nat _ _ by dsimp only; omega⟩
          · exact ⟨Nat.ne_of_gt hD5, Nat.ne_of_gt hD5D⟩
          · exact hinn p hp
      · refine Halt.out ?_
        (rename Fr g _ _ _ => F14); (rename News g _ _ _ => N14)
        refine lmul F14 N14 (News.isList N14 (show (lt, lsO (ys.drop i ++ ys.take i) 0) ∈ _ by k_mem)) hz (by omega) (by omega) ?_
        intro D4 h4 F15 N15 l15
        clear F14 N14
        have hrep := ints_rep hrt n
        have hrepl : ((List.replicate n (ys.drop i ++ ys.take i)).flatten).length ≤ 100 := by
          rw [List.length_flatten, List.map_replicate, List.sum_replicate_nat, hrtl]
          exact Nat.le_trans (Nat.mul_le_mul hz9 hys9) (by decide)
        k_steps
        refine Halt.out ?_
        refine lsl_to (s := ⟨_, _, _, _, _⟩) F15 N15 (News.isList N15 (show (D4, _) ∈ _ by k_mem)) hz (by omega) ?_
        intro D5 h5 F16 N16 l16
        have N17 : News g L' h5 ((D5, lsO ((List.replicate n (ys.drop i ++ ys.take i)).flatten.take n) 0) :: (I, oI) :: (lw, lsO vs e) :: (D, lsO ys e7) :: inner) := (by (repeat refine nCons (N16 _ (by k_mem)) ?_); first | exact (fun p hp => absurd hp List.not_mem_nil) | exact fun p hp => N16 p (by repeat (first | exact hp | refine List.Mem.tail _ ?_)))
        have hkey : IntsAre ((List.replicate n (ys.drop i ++ ys.take i)).flatten.take n) (repT (rotL rks i) n) := hrep.take n
        clear F15 N15 N16
        k_steps
        refine Halt.out ?_
        rename_i tT DT _ _ _ lT
        (rename Fr g _ _ _ => F18); (rename News g _ _ _ => N18)
        rw [hnm ⟨show Int.toNat ((i : Int) - 1 + (xs.length : Int)) = ring.length - 1 by omega, by rw [show i = 0 by omega, Nat.zero_add, Nat.mod_eq_of_lt (by omega)]⟩] at N18
        have N19 : News g L' _ ((lw, lsO vs e) :: (DT, tpO [.ref D5, .str (latin (ring.getD ((i + ring.length - 1) % ring.length) [])) tT]) :: (D5, lsO ((List.replicate n (ys.drop i ++ ys.take i)).flatten.take n) 0) :: (I, oI) :: (D, lsO ys e7) :: inner) := (by (repeat refine nCons (N18 _ (by k_mem)) ?_); first | exact (fun p hp => absurd hp List.not_mem_nil) | exact fun p hp => N18 p (by repeat (first | exact hp | refine List.Mem.tail _ ?_)))
        have hD5 : lw < D5 := l16 (lw, lsO vs e) (by simp)
        have hD5D : D < D5 := l16 (D, lsO ys e7) (by simp)
        have hD5I : I < D5 := l16 (I, oI) (by simp)
        refine append_N F18 N19 ?_ ?_ ?_
        · refine List.forall_mem_cons.mpr ⟨?_, List.forall_mem_cons.mpr ⟨?_, List.forall_mem_cons.mpr ⟨?_, List.forall_mem_cons.mpr ⟨?_, fun p hp => ?_⟩⟩⟩⟩
          · show @Ne Nat _ _; omega
          · show @Ne Nat _ _; exact Nat.ne_of_gt hD5
          · exact fun q => hneI (lw, lsO vs e) (by simp) q.symm
          · show @Ne Nat _ _; exact Nat.ne_of_lt l1
          · exact (hinn p hp).1
        · rw [List.size_toArray, Paired.length hrows]; simp only [rowsTo, List.length_map, List.length_range]; exact Nat.le_trans (show i ≤ 9 by omega) (by decide)
        intro h20 e20 F20 N20
        replace N20 : News g L' h20 ((lw, lsO (vs ++ [.ref DT]) e20) :: (DT, tpO [.ref D5, .str (latin (ring.getD ((i + ring.length - 1) % ring.length) [])) tT]) :: (D5, lsO ((List.replicate n (ys.drop i ++ ys.take i)).flatten.take n) 0) :: (I, oI) :: (D, lsO ys e7) :: inner) := by simpa using N20
        clear F18 N18 N19
        k_steps
        refine Halt.out ⟨_, (lw, lsO (vs ++ [.ref DT]) e20) :: (D, lsO ys e7) :: ((DT, tpO [.ref D5, .str (latin (ring.getD ((i + ring.length - 1) % ring.length) [])) tT]) :: (D5, lsO ((List.replicate n (ys.drop i ++ ys.take i)).flatten.take n) 0) :: inner), h20, _, rfl, F20, (by (repeat refine nCons (N20 _ (by k_mem)) ?_); first | exact (fun p hp => absurd hp List.not_mem_nil) | exact fun p hp => N20 p (by repeat (first | exact hp | refine List.Mem.tail _ ?_))), ?_, vs ++ [.ref DT], e20, _, hm1, hm2, hm3, hm4, rfl, ?_, ?_⟩
        · refine List.forall_mem_cons.mpr ⟨?_, List.forall_mem_cons.mpr ⟨?_, List.forall_mem_cons.mpr ⟨?_, List.forall_mem_cons.mpr ⟨?_, fun p hp => ?_⟩⟩⟩⟩
          · exact hneI (lw, lsO vs e) (by simp)
          · exact hneI (D, lsO ys e7) (by simp)
          · show @Ne Nat _ _; omega
          · exact Nat.ne_of_gt hD5I
          · exact hneI p (by simp [hp])
        · have : rowsTo ring n (i + 1) = rowsTo ring n i ++ [(repT (rotL rks i) n, latin (ring.getD ((i + ring.length - 1) % ring.length) []))] := by
            simp only [rowsTo, List.range_succ, List.map_append, List.map_cons, List.map_nil, hrk]
          rw [this]
          refine Paired.snoc (paired_mono hrows fun v r ⟨a, b, ws, e, t, h1, h2, h3, h4⟩ => ⟨a, b, ws, e, t, h1, List.mem_cons_of_mem _ (List.mem_cons_of_mem _ h2), List.mem_cons_of_mem _ (List.mem_cons_of_mem _ h3), h4⟩) ?_
          exact ⟨DT, D5, _, 0, tT, rfl, List.mem_cons_self, List.mem_cons_of_mem _ List.mem_cons_self, hkey⟩
        · refine List.forall_mem_cons.mpr ⟨?_, List.forall_mem_cons.mpr ⟨?_, fun p hp => ?_⟩⟩
          · exact ⟨show @Ne Nat _ _ by dsimp only; omega, show @Ne Nat _ _ by dsimp only; omega⟩
          · exact ⟨Nat.ne_of_gt hD5, Nat.ne_of_gt hD5D⟩
          · exact hinn p hp
    · rintro m news h tk ⟨vs, e, inner, hm1, hm2, hm3, hm4, rfl, hrows, hinn⟩ F10 N10
      clear F9 N9
      change Fr g L' _ _ at F10; change News g L' _ _ at N10
      k_steps
      (rename Fr g _ _ _ => F11)
      have hss : Sub s.heap h := Fr.tells F11 (W := []) fun b o n e => hg b o (by simp) e
      have fz : ∀ a, g.get? a = none → s.heap.get? a = none := fun a e => get_none_sub (fun b o e => hg b o (by simp) e) e
      rw [hxl2] at hrows
      exact k h _ lw vs e inner hss (fz _ (N10 _ (.head _)).2.2) (N10 _ (.head _)).1 (fun p hp => ⟨(N10 p (.tail _ (.tail _ hp))).1, fz _ (N10 p (.tail _ (.tail _ hp))).2.2⟩) hrows
end

section
/-- the place that is come to in k steps -/
def goK (pl : List Nat) (k a : Nat) : Nat := match k with | 0 => a | k + 1 => pl.getD (goK pl k a) 0
theorem goK_succ (pl : List Nat) (k a : Nat) : goK pl (k + 1) a = pl.getD (goK pl k a) 0 := rfl
theorem goK_add (pl : List Nat) (a : Nat) (j : Nat) : ∀ k, goK pl (j + k) a = goK pl k (goK pl j a)
  | 0 => rfl
  | k + 1 => by show pl.getD (goK pl (j + k) a) 0 = _; rw [goK_add pl a j k]; rfl
theorem goK_succ' (pl : List Nat) (k a : Nat) : goK pl (k + 1) a = goK pl k (pl.getD a 0) := by
  rw [Nat.add_comm, goK_add]; rfl
theorem nodup_at {l : List Nat} (h : l.Nodup) {i j : Nat} (hi : i < l.length) (hj : j < l.length) (e : l.getD i 0 = l.getD j 0) : i = j := by
  rw [List.getD_eq_getElem?_getD, List.getD_eq_getElem?_getD, List.getElem?_eq_getElem hi, List.getElem?_eq_getElem hj] at e
  have e' : l[i] = l[j] := e
  have hp := List.pairwise_iff_getElem.mp h
  rcases Nat.lt_trichotomy i j with q | q | q
  · exact absurd e' (hp i j hi hj q)
  · exact q
  · exact absurd e'.symm (hp j i hj hi q)
theorem getD_mem {l : List Nat} {i : Nat} (hi : i < l.length) : l.getD i 0 ∈ l := by
  rw [List.getD_eq_getElem?_getD, List.getElem?_eq_getElem hi]; exact List.getElem_mem hi
/-- the places are a turn of 0 .. n - 1 -/
structure Turn (n : Nat) (pl : List Nat) : Prop where
  len : pl.length = n
  lt : ∀ a ∈ pl, a < n
  nd : pl.Nodup
theorem Turn.to {n : Nat} {pl : List Nat} (T : Turn n pl) {a : Nat} (h : a < n) : pl.getD a 0 < n := T.lt _ (getD_mem (T.len ▸ h))
theorem Turn.inj {n : Nat} {pl : List Nat} (T : Turn n pl) {a b : Nat} (ha : a < n) (hb : b < n) (e : pl.getD a 0 = pl.getD b 0) : a = b := nodup_at T.nd (T.len ▸ ha) (T.len ▸ hb) e
theorem Turn.go {n : Nat} {pl : List Nat} (T : Turn n pl) {a : Nat} (h : a < n) : ∀ k, goK pl k a < n
  | 0 => h
  | k + 1 => T.to (T.go h k)
theorem Turn.perm {n : Nat} {pl : List Nat} (T : Turn n pl) : pl.Perm (List.range n) := by
  refine (List.perm_ext_iff_of_nodup T.nd List.nodup_range).mpr fun a => ⟨fun h => List.mem_range.mpr (T.lt a h), fun h => ?_⟩
  have ha := List.mem_range.mp h
  refine Classical.byContradiction fun hn => ?_
  have : (a :: pl).length ≤ (List.range n).length := List.Nodup.length_le_of_subset (List.nodup_cons.mpr ⟨hn, T.nd⟩) fun x hx => by
    rcases List.mem_cons.mp hx with rfl | hx
    · exact h
    · exact List.mem_range.mpr (T.lt x hx)
  simp [T.len] at this
  omega
/-- a closed ring -/
structure Cyc (pl : List Nat) (r : List Nat) : Prop where
  pos : 0 < r.length
  step : ∀ k < r.length, r.getD ((k + 1) % r.length) 0 = pl.getD (r.getD k 0) 0
theorem mod_succ_pred {j k : Nat} (hk : k < j) : ((k + (j - 1)) % j + 1) % j = k := by
  rcases Nat.eq_zero_or_pos k with h | h
  · subst h
    rw [Nat.zero_add, Nat.mod_eq_of_lt (show j - 1 < j by omega), show j - 1 + 1 = j by omega, Nat.mod_self]
  · rw [show k + (j - 1) = (k - 1) + j by omega, Nat.add_mod_right, Nat.mod_eq_of_lt (show k - 1 < j by omega), show k - 1 + 1 = k by omega, Nat.mod_eq_of_lt hk]
theorem mem_getD {l : List Nat} {a : Nat} (h : a ∈ l) : ∃ i, i < l.length ∧ l.getD i 0 = a := by
  obtain ⟨i, hi, rfl⟩ := List.getElem_of_mem h
  exact ⟨i, hi, by rw [List.getD_eq_getElem?_getD, List.getElem?_eq_getElem hi]; rfl⟩
theorem Cyc.back {pl r : List Nat} (C : Cyc pl r) {a : Nat} (h : a ∈ r) : ∃ b ∈ r, pl.getD b 0 = a := by
  obtain ⟨i, hi, rfl⟩ := mem_getD h
  have hm : (i + (r.length - 1)) % r.length < r.length := Nat.mod_lt _ C.pos
  refine ⟨r.getD ((i + (r.length - 1)) % r.length) 0, getD_mem hm, ?_⟩
  rw [← C.step _ hm, mod_succ_pred hi]
/-- what is seen is whole rings -/
structure Seen (n : Nat) (pl seen : List Nat) (rings : List (List Nat)) : Prop where
  cyc : ∀ r ∈ rings, Cyc pl r
  perm : seen.Perm rings.flatten
  nd : seen.Nodup
  lt : ∀ a ∈ seen, a < n
theorem Seen.back {n : Nat} {pl seen : List Nat} {rings : List (List Nat)} (S : Seen n pl seen rings) {a : Nat} (h : a ∈ seen) : ∃ b ∈ seen, pl.getD b 0 = a := by
  obtain ⟨r, hr, ha⟩ := List.mem_flatten.mp (S.perm.mem_iff.mp h)
  obtain ⟨b, hb, e⟩ := (S.cyc r hr).back ha
  exact ⟨b, S.perm.mem_iff.mpr (List.mem_flatten.mpr ⟨r, hr, hb⟩), e⟩
def orb (pl : List Nat) (s i k : Nat) : List Nat := (List.range k).map fun j => goK pl (i + j) s
theorem orb_succ (pl : List Nat) (s i k : Nat) : orb pl s i (k + 1) = orb pl s i k ++ [goK pl (i + k) s] := by simp [orb, List.range_succ]
theorem orb_len (pl : List Nat) (s i k : Nat) : (orb pl s i k).length = k := by simp [orb]
theorem orb_at (pl : List Nat) (s i : Nat) {k j : Nat} (h : j < k) : (orb pl s i k).getD j 0 = goK pl (i + j) s := by
  simp [orb, List.getD_eq_getElem?_getD, h]
theorem orb_cons (pl : List Nat) (s i k : Nat) : orb pl s i (k + 1) = goK pl i s :: orb pl s (i + 1) k := by
  simp only [orb, List.range_succ_eq_map, List.map_cons, List.map_map, Nat.add_zero]
  congr 1
  refine List.map_congr_left fun j _ => ?_
  show goK pl (i + (j + 1)) s = _
  rw [show i + (j + 1) = i + 1 + j by omega]
theorem mem_orb {pl : List Nat} {s i k a : Nat} : a ∈ orb pl s i k ↔ ∃ j < k, goK pl (i + j) s = a := by
  simp [orb]
theorem ringGo_tells {n : Nat} {pl seen : List Nat} {rings : List (List Nat)} {s : Nat} (T : Turn n pl) (S : Seen n pl seen rings) (hs : s < n) (hns : s ∉ seen) :
    ∀ f k, f + k = n + 1 → (seen ++ orb pl s 0 k).Nodup → ∃ j, 0 < j ∧ goK pl j s = s ∧ (seen ++ orb pl s 0 j).Nodup ∧ ringGo pl f (seen ++ orb pl s 0 k) (goK pl k s) (orb pl s 1 k) = (seen ++ orb pl s 0 j, orb pl s 1 j)
  | 0, k, hf, hnd => by
    exfalso
    have : (seen ++ orb pl s 0 k).length ≤ (List.range n).length := List.Nodup.length_le_of_subset hnd fun x hx => by
      rcases List.mem_append.mp hx with h | h
      · exact List.mem_range.mpr (S.lt x h)
      · obtain ⟨j, -, rfl⟩ := mem_orb.mp h
        exact List.mem_range.mpr (T.go hs _)
    rw [List.length_append, orb_len, List.length_range] at this
    omega
  | f + 1, k, hf, hnd => by
    simp only [ringGo]
    by_cases hm : goK pl k s ∈ seen ++ orb pl s 0 k
    · rw [if_pos hm]
      have hk : 0 < k := by
        rcases Nat.eq_zero_or_pos k with h | h
        · subst h
          rcases List.mem_append.mp hm with h | h
          · exact absurd h hns
          · simp [orb] at h
        · exact h
      refine ⟨k, hk, ?_, hnd, rfl⟩
      obtain ⟨k', rfl⟩ : ∃ k', k = k' + 1 := ⟨k - 1, by omega⟩
      have hlast : goK pl k' s ∈ orb pl s 0 (k' + 1) := mem_orb.mpr ⟨k', Nat.lt_succ_self _, by rw [Nat.zero_add]⟩
      have hdis := (List.nodup_append.mp hnd)
      rcases List.mem_append.mp hm with h | h
      · exfalso
        obtain ⟨b, hb, e⟩ := S.back h
        have : b = goK pl k' s := T.inj (S.lt b hb) (T.go hs k') e
        subst this
        exact hdis.2.2 _ hb _ hlast rfl
      · obtain ⟨j, hj, e⟩ := mem_orb.mp h
        rw [Nat.zero_add] at e
        cases j with
        | zero => exact e.symm
        | succ j =>
          exfalso
          have e1 : goK pl j s = goK pl k' s := T.inj (T.go hs j) (T.go hs k') e
          have := nodup_at hdis.2.1 (i := j) (j := k') (by rw [orb_len]; omega) (by rw [orb_len]; omega) (by rw [orb_at _ _ _ (by omega), orb_at _ _ _ (by omega), Nat.zero_add, Nat.zero_add]; exact e1)
          omega
    · rw [if_neg hm]
      have e1 : seen ++ orb pl s 0 k ++ [goK pl k s] = seen ++ orb pl s 0 (k + 1) := by rw [orb_succ, Nat.zero_add, List.append_assoc]
      have e2 : orb pl s 1 k ++ [pl.getD (goK pl k s) 0] = orb pl s 1 (k + 1) := by rw [orb_succ, Nat.add_comm 1 k]; rfl
      rw [e1, e2]
      refine ringGo_tells T S hs hns f (k + 1) (by omega) ?_
      rw [← e1]
      refine List.nodup_append.mpr ⟨hnd, by simp, fun a ha b hb => ?_⟩
      rw [List.mem_singleton.mp hb]
      rintro rfl
      exact hm ha
theorem orb_cyc {pl : List Nat} {s j : Nat} (hj : 0 < j) (e : goK pl j s = s) : Cyc pl (orb pl s 1 j) := by
  refine ⟨by rw [orb_len]; exact hj, fun k hk => ?_⟩
  rw [orb_len] at hk ⊢
  rw [orb_at _ _ _ (Nat.mod_lt _ hj), orb_at _ _ _ hk]
  by_cases h : k + 1 = j
  · rw [h, Nat.mod_self]
    rw [show 1 + k = j by omega, e]; rfl
  · rw [Nat.mod_eq_of_lt (by omega), show 1 + (k + 1) = (1 + k) + 1 by omega]; rfl
theorem orb_perm {pl : List Nat} {s j : Nat} (hj : 0 < j) (e : goK pl j s = s) : (orb pl s 0 j).Perm (orb pl s 1 j) := by
  obtain ⟨k, rfl⟩ : ∃ k, j = k + 1 := ⟨j - 1, by omega⟩
  rw [orb_cons, orb_succ, Nat.add_comm 1 k, e]
  exact (List.perm_append_comm (l₁ := [goK pl 0 s])).trans (List.Perm.refl _)
theorem step_tells {n : Nat} {pl seen : List Nat} {rings : List (List Nat)} {s : Nat} (T : Turn n pl) (S : Seen n pl seen rings) (hs : s < n) :
    Seen n pl (ringStep pl (seen, rings) s).1 (ringStep pl (seen, rings) s).2 ∧ s ∈ (ringStep pl (seen, rings) s).1 ∧ ∀ a ∈ seen, a ∈ (ringStep pl (seen, rings) s).1 := by
  by_cases h : s ∈ seen
  · have e : ringGo pl (pl.length + 1) seen s [] = (seen, []) := by simp [ringGo, h]
    simp only [ringStep, e, if_true]
    exact ⟨S, h, fun _ h => h⟩
  · obtain ⟨j, hj, e, hnd, hr⟩ := ringGo_tells T S hs h (pl.length + 1) 0 (by rw [T.len]) (by simpa [orb] using S.nd)
    have hr' : ringGo pl (pl.length + 1) seen s [] = (seen ++ orb pl s 0 j, orb pl s 1 j) := by simpa [orb, goK] using hr
    have hne : orb pl s 1 j ≠ [] := fun q => by have := congrArg List.length q; rw [orb_len] at this; simp at this; omega
    simp only [ringStep, hr', hne, if_false]
    refine ⟨⟨?_, ?_, hnd, ?_⟩, ?_, fun a ha => List.mem_append_left _ ha⟩
    · intro r hr
      rcases List.mem_append.mp hr with hr | hr
      · exact S.cyc r hr
      · rw [List.mem_singleton.mp hr]; exact orb_cyc hj e
    · rw [List.flatten_append]
      simpa using List.Perm.append S.perm (orb_perm hj e)
    · intro a ha
      rcases List.mem_append.mp ha with ha | ha
      · exact S.lt a ha
      · obtain ⟨i, -, rfl⟩ := mem_orb.mp ha
        exact T.go hs _
    · exact List.mem_append_right _ (mem_orb.mpr ⟨0, hj, rfl⟩)
theorem rings_inv {n : Nat} {pl : List Nat} (T : Turn n pl) : ∀ i, i ≤ n → Seen n pl (ringsTo pl i).1 (ringsTo pl i).2 ∧ ∀ a < i, a ∈ (ringsTo pl i).1
  | 0, _ => ⟨⟨by simp [ringsTo], by simp [ringsTo], by simp [ringsTo], by simp [ringsTo]⟩, fun a h => absurd h (by omega)⟩
  | i + 1, hi => by
    obtain ⟨S, h⟩ := rings_inv T i (by omega)
    have e : ringsTo pl (i + 1) = ringStep pl (ringsTo pl i) i := by simp [ringsTo, List.range_succ]
    rw [e]
    obtain ⟨S', h1, h2⟩ := step_tells T S (show i < n by omega)
    refine ⟨S', fun a ha => ?_⟩
    by_cases q : a = i
    · rw [q]; exact h1
    · exact h2 a (h a (by omega))
/-- the rings: closed, and each place stands in one of them, once -/
theorem rings_all {n : Nat} {pl : List Nat} (T : Turn n pl) : (∀ r ∈ (ringsTo pl n).2, Cyc pl r) ∧ ((ringsTo pl n).2.flatten).Perm (List.range n) := by
  obtain ⟨S, h⟩ := rings_inv T n (Nat.le_refl _)
  refine ⟨S.cyc, S.perm.symm.trans ?_⟩
  exact (List.perm_ext_iff_of_nodup S.nd List.nodup_range).mpr fun a => ⟨fun q => List.mem_range.mpr (S.lt a q), fun q => h a (List.mem_range.mp q)⟩
/-! turns -/
theorem rotL_at {α : Type} {l : List α} {k j : Nat} {d : α} (hk : k ≤ l.length) (hj : j < l.length) : (rotL l k).getD j d = l.getD ((j + k) % l.length) d := by
  simp only [rotL, List.getD_eq_getElem?_getD, List.getElem?_append, List.length_drop, List.getElem?_drop, List.getElem?_take]
  by_cases h : j < l.length - k
  · rw [if_pos h, Nat.mod_eq_of_lt (by omega), Nat.add_comm]
  · rw [if_neg h, show (j + k) % l.length = j - (l.length - k) by
      rw [show j + k = (j - (l.length - k)) + l.length by omega, Nat.add_mod_right, Nat.mod_eq_of_lt (by omega)], if_pos (by omega)]
theorem rotL_len' {α : Type} (l : List α) (k : Nat) : (rotL l k).length = l.length := by simp [rotL]; omega
theorem rotL_perm {α : Type} (l : List α) (k : Nat) : (rotL l k).Perm l := by
  unfold rotL
  exact List.perm_append_comm.trans (by rw [List.take_append_drop])
theorem rotL_map {α β : Type} (f : α → β) (l : List α) (k : Nat) : (rotL l k).map f = rotL (l.map f) k := by simp [rotL, List.map_drop, List.map_take]
theorem Cyc.rot {pl r : List Nat} (C : Cyc pl r) {k : Nat} (hk : k ≤ r.length) : Cyc pl (rotL r k) := by
  refine ⟨by rw [rotL_len']; exact C.pos, fun j hj => ?_⟩
  rw [rotL_len'] at hj ⊢
  rw [rotL_at hk (Nat.mod_lt _ C.pos), rotL_at hk hj, ← C.step _ (Nat.mod_lt _ C.pos)]
  congr 1
  rw [Nat.mod_add_mod, Nat.mod_add_mod]
  congr 1
  omega
theorem Cyc.go {pl r : List Nat} (C : Cyc pl r) {k : Nat} (hk : k < r.length) : ∀ j, goK pl j (r.getD k 0) = r.getD ((k + j) % r.length) 0
  | 0 => by rw [Nat.add_zero, Nat.mod_eq_of_lt hk]; rfl
  | j + 1 => by
    rw [goK_succ, C.go hk j, ← C.step _ (Nat.mod_lt _ C.pos)]
    congr 1
    rw [Nat.mod_add_mod, Nat.add_assoc]
theorem flat_at {α : Type} {l : List α} (hl : 0 < l.length) : ∀ (n j : Nat), j < n * l.length → ((List.replicate n l).flatten)[j]? = l[j % l.length]?
  | 0, j, h => by simp at h
  | n + 1, j, h => by
    rw [List.replicate_succ, List.flatten_cons, List.getElem?_append]
    by_cases hj : j < l.length
    · rw [if_pos hj, Nat.mod_eq_of_lt hj]
    · rw [if_neg hj, flat_at hl n (j - l.length) (by rw [Nat.succ_mul] at h; omega)]
      congr 1
      conv => rhs; rw [show j = (j - l.length) + l.length by omega, Nat.add_mod_right]
theorem repT_eq {l : List Int} (hl : 0 < l.length) (n : Nat) : repT l n = (List.range n).map fun j => l.getD (j % l.length) 0 := by
  have hlen : ∀ n, ((List.replicate n l).flatten).length = n * l.length := fun n => by simp
  have hmul : n ≤ n * l.length := Nat.le_mul_of_pos_right n hl
  refine List.ext_getElem? fun j => ?_
  by_cases hj : j < n
  · rw [repT, List.getElem?_take, if_pos hj, flat_at hl n j (by omega)]
    have : j % l.length < l.length := Nat.mod_lt _ hl
    simp [hj, this]
  · rw [List.getElem?_eq_none (by simp [repT, hlen]; omega), List.getElem?_eq_none (by simp; omega)]
/-! the order -/
/-- what is read from a place on -/
def keyAt (pl : List Nat) (F : Nat → Int) (n a : Nat) : List Int := (List.range n).map fun j => F (goK pl (j + 1) a)
theorem keyAt_succ (pl : List Nat) (F : Nat → Int) (n a : Nat) : keyAt pl F (n + 1) a = F (pl.getD a 0) :: keyAt pl F n (pl.getD a 0) := by
  simp only [keyAt, List.range_succ_eq_map, List.map_cons, List.map_map]
  congr 1
  refine List.map_congr_left fun j _ => ?_
  show F (goK pl (j + 1 + 1) a) = _
  rw [goK_succ']
/-- the places in the names' order, equal names by their place -/
def Ordered (n : Nat) (pl : List Nat) (F : Nat → Int) : Prop := ∀ i j, i < j → j < n → F (pl.getD i 0) < F (pl.getD j 0) ∨ (F (pl.getD i 0) = F (pl.getD j 0) ∧ pl.getD i 0 < pl.getD j 0)
theorem key_le {n : Nat} {pl : List Nat} {F : Nat → Int} (T : Turn n pl) (O : Ordered n pl F) : ∀ m i j, i < j → j < n → ltL (keyAt pl F m j) (keyAt pl F m i) = false
  | 0, i, j, _, _ => rfl
  | m + 1, i, j, hij, hj => by
    rw [keyAt_succ, keyAt_succ]
    simp only [ltL]
    rcases O i j hij hj with h | ⟨h, h'⟩
    · rw [if_neg (by omega)]; exact decide_eq_false (by omega)
    · rw [if_pos h.symm]; exact key_le T O m _ _ h' (T.to hj)
theorem climb {n : Nat} {pl : List Nat} {F : Nat → Int} (T : Turn n pl) (O : Ordered n pl F) {p q : Nat} (hpq : p < q) (hq : q < n) (he : ∀ m, F (goK pl (m + 1) p) = F (goK pl (m + 1) q)) : ∀ m, goK pl m p < goK pl m q
  | 0 => hpq
  | m + 1 => by
    have ih := climb T O hpq hq he m
    rcases O _ _ ih (T.go hq m) with h | h
    · have := he m; rw [goK_succ, goK_succ] at this; omega
    · exact h.2
theorem climb_k {n : Nat} {pl : List Nat} {F : Nat → Int} (T : Turn n pl) (O : Ordered n pl F) {p k : Nat} (hp : p < n) (hpk : p < goK pl k p) (he : ∀ m, F (goK pl (m + 1) p) = F (goK pl (m + 1) (goK pl k p))) : ∀ j, 0 < j → p < goK pl (k * j) p
  | 0, h => absurd h (by omega)
  | 1, _ => by simpa using hpk
  | j + 2, _ => by
    have ih := climb_k T O hp hpk he (j + 1) (by omega)
    have := climb T O hpk (T.go hp k) he (k * (j + 1))
    rw [← goK_add] at this
    rw [show k * (j + 2) = k + k * (j + 1) by rw [Nat.mul_succ, Nat.add_comm]]
    omega
theorem fall_k {n : Nat} {pl : List Nat} {F : Nat → Int} (T : Turn n pl) (O : Ordered n pl F) {p k : Nat} (hp : p < n) (hpk : goK pl k p < p) (he : ∀ m, F (goK pl (m + 1) p) = F (goK pl (m + 1) (goK pl k p))) : ∀ j, 0 < j → goK pl (k * j) p < p
  | 0, h => absurd h (by omega)
  | 1, _ => by simpa using hpk
  | j + 2, _ => by
    have ih := fall_k T O hp hpk he (j + 1) (by omega)
    have := climb T O hpk hp (fun m => (he m).symm) (k * (j + 1))
    rw [← goK_add] at this
    rw [show k * (j + 2) = k + k * (j + 1) by rw [Nat.mul_succ, Nat.add_comm]]
    omega
/-- no ring's word is one of its own turns -/
theorem Cyc.prim {n : Nat} {pl r : List Nat} {F : Nat → Int} (T : Turn n pl) (O : Ordered n pl F) (C : Cyc pl r) (hr : ∀ a ∈ r, a < n) (hnd : r.Nodup) {k : Nat} (hk : 0 < k) (hkl : k < r.length) : rotL (r.map F) k ≠ r.map F := by
  intro e
  have hp : r.getD 0 0 < n := hr _ (getD_mem C.pos)
  have hF : ∀ j, j < r.length → F (r.getD ((j + k) % r.length) 0) = F (r.getD j 0) := fun j hj => by
    have h1 := congrArg (fun l : List Int => l.getD j 0) e
    rw [rotL_at (by rw [List.length_map]; omega) (by rw [List.length_map]; exact hj), List.length_map] at h1
    have hm : (j + k) % r.length < r.length := Nat.mod_lt _ C.pos
    simpa [List.getD_eq_getElem?_getD, List.getElem?_map, List.getElem?_eq_getElem hj, List.getElem?_eq_getElem hm] using h1
  have he : ∀ m, F (goK pl (m + 1) (r.getD 0 0)) = F (goK pl (m + 1) (goK pl k (r.getD 0 0))) := fun m => by
    rw [← goK_add, C.go C.pos, C.go C.pos, ← hF _ (Nat.mod_lt _ C.pos)]
    congr 2
    rw [Nat.mod_add_mod]; congr 1; omega
  have hne : goK pl k (r.getD 0 0) ≠ r.getD 0 0 := fun q => by
    rw [C.go C.pos, Nat.zero_add, Nat.mod_eq_of_lt hkl] at q
    have := nodup_at hnd hkl C.pos q
    omega
  have hcl : goK pl (k * r.length) (r.getD 0 0) = r.getD 0 0 := by
    rw [C.go C.pos, Nat.zero_add, Nat.mul_mod_left]
  rcases Nat.lt_or_gt_of_ne hne with h | h
  · have := fall_k T O hp h he r.length C.pos; omega
  · have := climb_k T O hp h he r.length C.pos; omega
end
section
/-- the places by a name's place among the five -/
def pOf (n : Nat) (F : Nat → Int) : List Nat := ([0, 1, 2, 3, 4] : List Int).flatMap fun r => (List.range n).filter fun j => decide (F j = r)
theorem pOf_pw (n : Nat) (F : Nat → Int) : (pOf n F).Pairwise fun a b => F a < F b ∨ (F a = F b ∧ a < b) := by
  refine List.pairwise_flatMap.mpr ⟨fun r _ => ?_, ?_⟩
  · have h : ((List.range n).filter fun j => decide (F j = r)).Pairwise (fun a b => a < b) := List.Pairwise.filter _ List.pairwise_lt_range
    refine List.Pairwise.imp_of_mem (fun {a b} ha hb hab => ?_) h
    have ha' := (List.mem_filter.mp ha).2
    have hb' := (List.mem_filter.mp hb).2
    rw [decide_eq_true_eq] at ha' hb'
    exact .inr ⟨ha'.trans hb'.symm, hab⟩
  · have h : ([0, 1, 2, 3, 4] : List Int).Pairwise (fun a b => a < b) := by decide
    refine List.Pairwise.imp (fun {r s} hrs x hx y hy => .inl ?_) h
    have hx' := (List.mem_filter.mp hx).2
    have hy' := (List.mem_filter.mp hy).2
    rw [decide_eq_true_eq] at hx' hy'
    omega
theorem pOf_turn {n : Nat} {F : Nat → Int} (hF : ∀ j < n, F j ∈ ([0, 1, 2, 3, 4] : List Int)) : Turn n (pOf n F) := by
  have hlt : ∀ a ∈ pOf n F, a < n := fun a ha => by
    obtain ⟨r, _, h⟩ := List.mem_flatMap.mp ha
    exact List.mem_range.mp (List.mem_filter.mp h).1
  have hnd : (pOf n F).Nodup := List.Pairwise.imp (fun {a b} h e => by subst e; omega) (pOf_pw n F)
  refine ⟨?_, hlt, hnd⟩
  have : (pOf n F).Perm (List.range n) := (List.perm_ext_iff_of_nodup hnd List.nodup_range).mpr fun a => ⟨fun h => List.mem_range.mpr (hlt a h), fun h => by
    refine List.mem_flatMap.mpr ⟨F a, hF a (List.mem_range.mp h), List.mem_filter.mpr ⟨h, by simp⟩⟩⟩
  simpa using this.length_eq
theorem pOf_ord {n : Nat} {F : Nat → Int} (hF : ∀ j < n, F j ∈ ([0, 1, 2, 3, 4] : List Int)) : Ordered n (pOf n F) F := fun i j hij hj => by
  have hl := (pOf_turn hF).len
  have := List.pairwise_iff_getElem.mp (pOf_pw n F) i j (by omega) (by omega) hij
  simpa [List.getD_eq_getElem?_getD, show i < (pOf n F).length by omega, show j < (pOf n F).length by omega] using this
theorem low_rank : ∀ x ∈ noms, (Txt.lower (latin x) == Txt.lower Str.empty) = decide (rank x = 0) ∧ (Txt.lower (latin x) == Txt.lower (Str.ofString "A")) = decide (rank x = 1) ∧ (Txt.lower (latin x) == Txt.lower (Str.ofString "AB")) = decide (rank x = 2) ∧ (Txt.lower (latin x) == Txt.lower (Str.ofString "B")) = decide (rank x = 3) ∧ (Txt.lower (latin x) == Txt.lower (Str.ofString "É")) = decide (rank x = 4) ∧ rank x ∈ ([0, 1, 2, 3, 4] : List Int) := by
  intro x hx
  simp only [noms, List.mem_cons, List.not_mem_nil, or_false] at hx
  rcases hx with rfl | rfl | rfl | rfl | rfl | rfl | rfl | rfl <;> decide +kernel
theorem getD_in {octs : List (List UInt8)} (hx : ∀ x ∈ octs, x ∈ noms) {j : Nat} (hj : j < octs.length) : octs.getD j [] ∈ noms := by
  rw [List.getD_eq_getElem?_getD, List.getElem?_eq_getElem hj]; exact hx _ (List.getElem_mem hj)
theorem placesOf_eq {octs : List (List UInt8)} (hx : ∀ x ∈ octs, x ∈ noms) : placesOf (octs.map latin) = pOf octs.length fun j => rank (octs.getD j []) := by
  have h : ∀ (q : Str) (r : Int), (∀ x ∈ noms, (Txt.lower (latin x) == Txt.lower q) = decide (rank x = r)) → at1 (octs.map latin) q = (List.range octs.length).filter fun j => decide (rank (octs.getD j []) = r) := fun q r hq => by
    unfold at1
    rw [List.length_map]
    refine List.filter_congr fun j hj => ?_
    have hj' := List.mem_range.mp hj
    rw [← hq _ (getD_in hx hj')]
    simp only [List.getD_eq_getElem?_getD, List.getElem?_map, List.getElem?_eq_getElem hj']
    rfl
  simp only [placesOf, asked, pOf, List.flatMap_cons, List.flatMap_nil]
  rw [h _ 0 fun x hx => (low_rank x hx).1, h _ 1 fun x hx => (low_rank x hx).2.1, h _ 2 fun x hx => (low_rank x hx).2.2.1, h _ 3 fun x hx => (low_rank x hx).2.2.2.1, h _ 4 fun x hx => (low_rank x hx).2.2.2.2.1]
/-- a row of the table of turns -/
def rowAt (octs : List (List UInt8)) (pl : List Nat) (a : Nat) : List Int × Str := (keyAt pl (fun j => rank (octs.getD j [])) octs.length a, latin (octs.getD a []))
theorem rows_ring {octs : List (List UInt8)} {pl r : List Nat} (C : Cyc pl r) : (rowsTo (r.map fun a => octs.getD a []) octs.length r.length).Perm (r.map (rowAt octs pl)) := by
  have hm : ∀ k, k < r.length → (k + r.length - 1) % r.length < r.length := fun k hk => Nat.mod_lt _ C.pos
  have e : rowsTo (r.map fun a => octs.getD a []) octs.length r.length = (rotL r (r.length - 1)).map (rowAt octs pl) := by
    refine List.ext_getElem? fun k => ?_
    by_cases hk : k < r.length
    · have h1 : (rotL r (r.length - 1))[k]? = some (r.getD ((k + r.length - 1) % r.length) 0) := by
        have h2 := rotL_at (l := r) (k := r.length - 1) (j := k) (d := 0) (by omega) hk
        have h3 : k < (rotL r (r.length - 1)).length := by rw [rotL_len']; exact hk
        rw [List.getElem?_eq_getElem h3]
        rw [List.getD_eq_getElem?_getD, List.getElem?_eq_getElem h3] at h2
        have h4 : (rotL r (r.length - 1))[k] = r.getD ((k + (r.length - 1)) % r.length) 0 := h2
        rw [h4, show k + (r.length - 1) = k + r.length - 1 by omega]
      rw [List.getElem?_map, h1]
      simp only [rowsTo, List.getElem?_map, List.getElem?_range hk, Option.map_some, List.length_map]
      congr 1
      unfold rowAt
      have hpm := hm k hk
      refine Prod.ext ?_ ?_
      · show repT _ _ = _
        rw [repT_eq (by rw [rotL_len', List.length_map, List.length_map]; exact C.pos)]
        refine List.map_congr_left fun j _ => ?_
        rw [rotL_len', List.length_map, List.length_map, rotL_at (by simp; omega) (by rw [List.length_map, List.length_map]; exact Nat.mod_lt _ C.pos), List.length_map, List.length_map, C.go hpm]
        have e5 : ((k + r.length - 1) % r.length + (j + 1)) % r.length = (j % r.length + k) % r.length := by
          rw [Nat.mod_add_mod, Nat.mod_add_mod, show k + r.length - 1 + (j + 1) = (j + k) + r.length by omega, Nat.add_mod_right]
        rw [e5]
        have hq : (j + k) % r.length < r.length := Nat.mod_lt _ C.pos
        rw [Nat.mod_add_mod]
        simp [List.getD_eq_getElem?_getD, hq]
      · show latin _ = _
        simp [List.getD_eq_getElem?_getD, hpm]
    · rw [List.getElem?_eq_none (by simp [rowsTo]; omega), List.getElem?_eq_none (by rw [List.length_map, rotL_len']; omega)]
  rw [e]
  exact (rotL_perm r _).map _
/-- the rings' words, the last first, each turned -/
def bagOf (octs : List (List UInt8)) (pl : List Nat) (z : Int) : List (List (List UInt8)) := ((ringsTo pl octs.length).2.reverse).map fun r => rotL (r.map fun a => octs.getD a []) (z % r.length).toNat
theorem flatMap_perm {α β : Type} {f g : α → List β} : ∀ {l : List α}, (∀ a ∈ l, (f a).Perm (g a)) → (l.flatMap f).Perm (l.flatMap g)
  | [], _ => by simp
  | a :: l, h => by
    simp only [List.flatMap_cons]
    exact List.Perm.append (h a List.mem_cons_self) (flatMap_perm fun b hb => h b (List.mem_cons_of_mem _ hb))
theorem nodup_part {l : List (List Nat)} (h : l.flatten.Nodup) {r : List Nat} (hr : r ∈ l) : r.Nodup := (List.pairwise_flatten.mp h).1 r hr
structure BagOk (octs : List (List UInt8)) (pl : List Nat) (z : Int) : Prop where
  ring : ∀ x ∈ bagOf octs pl z, 0 < x.length ∧ x.length ≤ octs.length ∧ (∀ y ∈ x, y ∈ noms) ∧ ∀ k, 0 < k → k < x.length → rotL (x.map rank) k ≠ x.map rank
  len : (bagOf octs pl z).length ≤ octs.length
  rows : ((bagOf octs pl z).flatMap fun x => rowsTo x octs.length x.length).Perm ((List.range octs.length).map (rowAt octs pl))
theorem len_le_flat : ∀ {l : List (List Nat)}, (∀ r ∈ l, 0 < r.length) → l.length ≤ l.flatten.length
  | [], _ => by simp
  | r :: l, h => by
    have := len_le_flat fun r hr => h r (List.mem_cons_of_mem _ hr)
    have := h r List.mem_cons_self
    simp only [List.length_cons, List.flatten_cons, List.length_append]; omega
theorem bag_ok {octs : List (List UInt8)} (hx : ∀ x ∈ octs, x ∈ noms) (z : Int) : BagOk octs (placesOf (octs.map latin)) z := by
  rw [placesOf_eq hx]
  have hF : ∀ j < octs.length, (fun j => rank (octs.getD j [])) j ∈ ([0, 1, 2, 3, 4] : List Int) := fun j hj => (low_rank _ (getD_in hx hj)).2.2.2.2.2
  have T := pOf_turn hF
  have O := pOf_ord hF
  generalize hpl : pOf octs.length (fun j => rank (octs.getD j [])) = pl at T O ⊢
  obtain ⟨hc, hp⟩ := rings_all T
  have hnd : ((ringsTo pl octs.length).2.flatten).Nodup := hp.nodup_iff.mpr List.nodup_range
  have hlt : ∀ r ∈ (ringsTo pl octs.length).2, ∀ a ∈ r, a < octs.length := fun r hr a ha => List.mem_range.mp (hp.mem_iff.mp (List.mem_flatten.mpr ⟨r, hr, ha⟩))
  have hk : ∀ r ∈ (ringsTo pl octs.length).2, (z % r.length).toNat ≤ r.length := fun r hr => by
    have h0 := (hc r hr).pos
    have := Int.emod_lt_of_pos z (show (0 : Int) < r.length by omega)
    have := Int.emod_nonneg z (show (r.length : Int) ≠ 0 by omega)
    omega
  refine ⟨fun x hxm => ?_, ?_, ?_⟩
  · obtain ⟨r, hr, rfl⟩ := List.mem_map.mp hxm
    have hr' := List.mem_reverse.mp hr
    have C := (hc r hr').rot (hk r hr')
    have hndr : (rotL r (z % r.length).toNat).Nodup := (rotL_perm r _).nodup_iff.mpr (nodup_part hnd hr')
    have hltr : ∀ a ∈ rotL r (z % r.length).toNat, a < octs.length := fun a ha => hlt r hr' a ((rotL_perm r _).mem_iff.mp ha)
    rw [← rotL_map]
    refine ⟨by rw [List.length_map]; exact C.pos, ?_, ?_, fun k hk0 hkl => ?_⟩
    · rw [List.length_map]
      have := List.Nodup.length_le_of_subset hndr (l₂ := List.range octs.length) fun a ha => List.mem_range.mpr (hltr a ha)
      simpa using this
    · intro y hy
      obtain ⟨a, ha, rfl⟩ := List.mem_map.mp hy
      exact getD_in hx (hltr a ha)
    · rw [List.map_map]
      exact C.prim T O hltr hndr hk0 (by simpa using hkl)
  · have h1 := len_le_flat (l := (ringsTo pl octs.length).2) fun r hr => (hc r hr).pos
    have h2 := hp.length_eq
    simp only [bagOf, List.length_map, List.length_reverse]
    rw [List.length_range] at h2; omega
  · unfold bagOf
    rw [List.flatMap_map]
    have h1 : ∀ r ∈ (ringsTo pl octs.length).2.reverse, (rowsTo (rotL (r.map fun a => octs.getD a []) (z % r.length).toNat) octs.length (rotL (r.map fun a => octs.getD a []) (z % r.length).toNat).length).Perm (r.map (rowAt octs pl)) := fun r hr => by
      have hr' := List.mem_reverse.mp hr
      have C := (hc r hr').rot (hk r hr')
      rw [← rotL_map, List.length_map]
      exact (rows_ring C).trans ((rotL_perm r _).map _)
    refine (flatMap_perm h1).trans ?_
    rw [← List.map_flatMap]
    refine List.Perm.map _ ?_
    show ((ringsTo pl octs.length).2.reverse.flatMap id).Perm _
    rw [List.flatMap_id]
    exact (List.reverse_perm _).flatten.trans hp
/-- the keys in their order -/
theorem keys_eq {octs : List (List UInt8)} (hx : ∀ x ∈ octs, x ∈ noms) {ks : List (List Int)} (hp : ks.Perm ((List.range octs.length).map fun a => (rowAt octs (placesOf (octs.map latin)) a).1)) (hs : ks.Pairwise fun a b => ltL b a = false) :
    ks = (List.range octs.length).map fun a => (rowAt octs (placesOf (octs.map latin)) a).1 := by
  refine List.Perm.eq_of_pairwise (le := fun a b => ltL b a = false) (fun a b _ _ h1 h2 => ltL_total a b h2 h1) hs ?_ hp
  rw [placesOf_eq hx]
  have hF : ∀ j < octs.length, (fun j => rank (octs.getD j [])) j ∈ ([0, 1, 2, 3, 4] : List Int) := fun j hj => (low_rank _ (getD_in hx hj)).2.2.2.2.2
  have T := pOf_turn hF
  have O := pOf_ord hF
  refine List.pairwise_map.mpr (List.Pairwise.imp_of_mem (fun {a b} ha hb hab => ?_) List.pairwise_lt_range)
  exact key_le T O _ a b hab (List.mem_range.mp hb)
theorem rows_eq {octs : List (List UInt8)} {a b : List (List Int × Str)} (hab : a.Perm b) (ha : a.Pairwise fun x y => ltR y x = false) (hb : b.Pairwise fun x y => ltR y x = false) : a = b :=
  List.Perm.eq_of_pairwise (le := fun a b => ltR b a = false) (fun a b _ _ h1 h2 => ltR_total a b h2 h1) ha hb hab
theorem places_ok {octs : List (List UInt8)} (hx : ∀ x ∈ octs, x ∈ noms) : Turn octs.length (placesOf (octs.map latin)) := by
  rw [placesOf_eq hx]
  exact pOf_turn fun j hj => (low_rank _ (getD_in hx hj)).2.2.2.2.2
end

section
local macro_rules | `(tactic| walk_at "eval Name") => `(tactic| ((first | (with_reducible show wpAny _ _ (eval (Expr.Name (Str.ofString "numbers") _) (compEnvC _ _ _ _)) _ _ _) | (with_reducible show wpAny _ _ (eval (Expr.Name (Str.ofString "drawn") _) (compEnvC _ _ _ _)) _ _ _) | (with_reducible show wpAny _ _ (eval (Expr.Name (Str.ofString "keys") _) (compEnvC _ _ _ _)) _ _ _)); refine halt ?_))
local macro_rules | `(tactic| walk_at "call builtin:sum") => `(tactic| (refine halt ?_))
local macro_rules | `(tactic| walk_at "subscriptTail Name Name ref int") => `(tactic| (refine halt ?_))
local macro_rules | `(tactic| walk_at "newTuple") => `(tactic| (refine halt ?_))
local macro_rules | `(tactic| walk_at "call builtin:sorted") => `(tactic| (refine halt ?_))
local macro_rules | `(tactic| walk_at "call builtin:len") => `(tactic| ((with_reducible show wpAny _ _ (call (Value.builtin "len") [Value.ref _]) _ _ _); refine halt ?_))
local macro_rules | `(tactic| walk_at "call type:list") => `(tactic| (refine halt ?_))
local macro_rules | `(tactic| walk_at "compareOp NotEq ref ref") => `(tactic| (refine halt ?_))

-- LAW
section
variable {w : World} {mean : ExcName → Option Value} {mg mb : Str → Option Value} {h₀ : Heap} {dp un : Nat} {fr : Option (List Env)} {gd : Option (List Code)} {s : Shared} {Q E : Value → Shared → Prop}
theorem law1 : Challenge.rw_nb0223_01.Holds := hd1 (by
  k_go0
  (all_goals try k_fold)
  walk1
  walk1
  rename_i w0 s0 s1 mg mb _ _ _ _ _ _ _ _ _ _ _ _ _ _ _ _ ns hs1 hs2 hs3 hs4 hs5 _ _ lsc vsc _ hLs _ _ _ hIs _ hcl _ _ h1 tk1 oK oD oN dK dD dN X1 XK TT KB FF y1 y2
  have G : G1 w0 _ mg mb _ := ⟨XK, TT⟩
  generalize hh0 : ghostOf s1.heap [(234, 230)] = h0 at XK TT KB FF lifted codeHd y1 G
  have f0 : h0.get? 230 = none := (y1 (230, tabObj #[]) (by simp)).2.2
  have hC : CodeHd h0 234 230 := codeHd
  generalize hL0 : s1.heap.objs.size = L0 at FF y1 y2 ⊢
  have l63 : ns.length ≤ 63 := by omega
  have hvl := hIs.length
  clear hT8 hT9
  obtain ⟨m0, hm0, FF⟩ : ∃ m0, m0 (Str.ofString "script") = some (Value.ref lsc) ∧ Fr h0 L0 h1 m0 := ⟨_, rfl, FF⟩
  refine wpAny_mono (Q := fun v s' => Halt (∃ D vs nums h' tk', v = Value.ref D ∧ s' = { s1 with heap := h', toks := tk' } ∧ Fr h0 L0 h' m0 ∧ News h0 L0 h' [(D, lsO vs 0), (L0 + 1 + 1 + 1, oK), (L0 + 1 + 1, oD), (L0 + 1, oN), (230, tabObj #[])] ∧ IntsAre vs nums ∧ 0 < nums.length ∧ nums.length ≤ 9 ∧ L0 + 1 < D ∧ L0 + 1 + 1 < D)) ?_ ?_ (fun _ _ e => e)
  rotate_left
  · rintro v0 s' ⟨Dn, vsn, nums, h2, tk2, rfl, rfl, F2, N2, hin, hn0, hn9, hDn1, hDn2'⟩
    clear FF y1 hIs hLs lifted hm0 l63 hvl hcl
    have dN' : oN.data = .cell none := dN
    have dD' : oD.data = .cell none := dD
    have dK' : oK.data = .cell none := dK
    clear dN dD dK
    walk1
    k_dflt (refine storeCell F2 N2 rfl rfl rfl (show (L0 + 1, oN) ∈ _ by k_mem) dN' ?_)
    intro h3 oN' dN3 hN3 F3
    have hDn : Dn ≠ L0 + 1 := Nat.ne_of_gt hDn1
    have hDn2 : Dn ≠ L0 + 1 + 1 := Nat.ne_of_gt hDn2'
    have N3 := hN3 [(Dn, lsO vsn 0), (L0 + 1 + 1 + 1, oK), (L0 + 1 + 1, oD), (L0 + 1, oN'), (230, tabObj #[])] (List.forall_mem_cons.mpr ⟨.inr ⟨by k_mem, hDn⟩, List.forall_mem_cons.mpr ⟨.inr ⟨by k_mem, show @Ne Nat _ _ by omega⟩, List.forall_mem_cons.mpr ⟨.inr ⟨by k_mem, show @Ne Nat _ _ by omega⟩, List.forall_mem_cons.mpr ⟨.inl rfl, List.forall_mem_cons.mpr ⟨.inr ⟨by k_mem, show @Ne Nat _ _ by omega⟩, fun _ h => nomatch h⟩⟩⟩⟩⟩)
    clear F2 N2 hN3
    walk1
    walk1
    refine wpAny_Assign_Name ?_
    k_dflt (refine comp1SL (cl := []) (fun i ys => StrsAre ys ((nums.take i).map fun n => latin (noms.getD (n % 8).toNat []))) rfl rfl (by decide) rfl (by decide) rfl (by simpa using StrsAre.nil) ?_)
    k_dflt (refine nCell (c := L0 + 1) (o := oN') (v := .ref Dn) rfl (N3 (L0 + 1, oN') (by k_mem)).1 dN3 ?_ rfl rfl)
    have hll := (N3 (Dn, lsO vsn 0) (by k_mem)).1
    have hnl := hin.length
    refine Halt.out ⟨_, _, _, Src.list (items := List.toArray vsn) ⟨_, hll, rfl, _, rfl⟩, ?_, ?_, ?_, ?_⟩
    · rw [List.size_toArray, hnl]; exact Nat.le_trans hn9 (by decide)
    · intro b hb; rw [List.mem_singleton.mp hb]; exact Heap.lt_size hll
    · intro i v ys s₃ C m₃ E3 hi hP hR hmv hx3 hns hm hlen hC
      refine wpAny_tests_nil ?_
      simp only [if_true]
      refine ⟨Mv.refl _, Low.refl _, ?_⟩
      have hi2 : i < nums.length := by rw [← hnl]; simpa using hi
      obtain ⟨tz, hz⟩ := (ints_get hin i).1 nums[i] (List.getElem?_eq_getElem hi2)
      have hv : v = .int nums[i] tz := by
        have : vsn[i]? = some v := by simpa using hP
        rw [hz] at this; exact (Option.some.inj this).symm
      subst hv
      have F9 := low_frame hns
      have N9 : News (lowH s₃.heap C) C s₃.heap [] := by intro p hp; cases hp
      have G9 := G.sub ((Sub.of F3.keep).trans' (low_sub hx3 hC))
      have X9 := G9.K
      have T9 := G9.T
      generalize hgl9 : lowH s₃.heap C = g9 at F9 N9 G9 X9 T9
      k_steps
      (rename Fr g9 C _ _ => F10); (rename News g9 C _ _ => N10)
      k_dflt (refine nLocal F10.ns hm ?_ rfl rfl)
      subst hgl9
      have htk : (nums.take (i + 1)).map (fun n => latin (noms.getD (n % 8).toNat [])) = (nums.take i).map (fun n => latin (noms.getD (n % 8).toNat [])) ++ [latin (noms.getD (nums[i] % 8).toNat [])] := by
        rw [List.take_add_one, List.getElem?_eq_getElem hi2, List.map_append]; rfl
      have hfm : nums[i].fmod 8 = nums[i] % 8 := Int.fmod_eq_emod_of_nonneg _ (by decide)
      rw [htk]
      k_steps
      all_goals (
        (rename Int.fmod _ _ = _ => hE)
        refine Halt.out ⟨⟨_, _, rfl⟩, low_keep F10, ⟨_, F10.ns⟩, ?_⟩
        rw [← hfm, hE]
        exact StrsAre.append' hR (.cons _ _ .nil))
    · intro Dd h4 tk4 ysd ed hR hlen hD hp hext
      obtain ⟨F4, N4⟩ := news_add F3 N3 hext hD hp
      rw [List.size_toArray, hnl, List.take_of_length_le (Nat.le_refl _)] at hR
      obtain ⟨octs, hoct⟩ : ∃ octs : List (List UInt8), octs = nums.map fun n => noms.getD (n % 8).toNat [] := ⟨_, rfl⟩
      have hRd : StrsAre ysd (octs.map latin) := by rw [hoct, List.map_map]; exact hR
      have hol : octs.length = nums.length := by rw [hoct, List.length_map]
      have honom : ∀ x ∈ octs, x ∈ noms := by
        rw [hoct]; intro x hx
        obtain ⟨n, -, rfl⟩ := List.mem_map.mp hx
        have h8 : (n % 8).toNat < 8 := by omega
        rw [List.getD_eq_getElem?_getD, List.getElem?_eq_getElem (show (n % 8).toNat < noms.length from h8)]
        exact List.getElem_mem _
      have ho2 : ∀ x ∈ octs, x.length ≤ 2 := fun x hx => by
        have := honom x hx
        simp only [noms, List.mem_cons, List.not_mem_nil, or_false] at this
        rcases this with rfl | rfl | rfl | rfl | rfl | rfl | rfl | rfl <;> decide
      have hDd : Dd ≠ L0 + 1 + 1 := (ne_of_get (N3 (L0 + 1 + 1, oD) (by k_mem)).1 hD).symm
      clear F3 N3 hR hext hlen
      k_dflt (refine storeCell F4 N4 rfl rfl rfl (show (L0 + 1 + 1, oD) ∈ _ by k_mem) dD' ?_)
      intro h5 oD' dD5 hN5 F5
      have N5 := hN5 [(Dd, lsO ysd ed), (Dn, lsO vsn 0), (L0 + 1 + 1 + 1, oK), (L0 + 1 + 1, oD'), (L0 + 1, oN'), (230, tabObj #[])] (List.forall_mem_cons.mpr ⟨.inr ⟨by k_mem, hDd⟩, List.forall_mem_cons.mpr ⟨.inr ⟨by k_mem, hDn2⟩, List.forall_mem_cons.mpr ⟨.inr ⟨by k_mem, show @Ne Nat _ _ by omega⟩, List.forall_mem_cons.mpr ⟨.inl rfl, List.forall_mem_cons.mpr ⟨.inr ⟨by k_mem, show @Ne Nat _ _ by omega⟩, List.forall_mem_cons.mpr ⟨.inr ⟨by k_mem, show @Ne Nat _ _ by omega⟩, fun _ h => nomatch h⟩⟩⟩⟩⟩⟩)
      clear F4 N4 hN5
      k_steps
      refine getMethod_builtin (typeIs_bytes _ _ _) FB.plainAttrs_bytes slot_bytes_join type_bytes_join (fun _ e => nomatch e) ?_
      k_steps
      refine Halt.out ?_
      k_dflt (refine comp1S (cl := []) (fun i ys => BytesAre ys ((octs.take i).map fun x => x.length.toUInt8 :: x)) rfl rfl (by decide) rfl (by decide) rfl (by simp only [List.take_zero, List.map_nil]; exact Paired.nil) ?_)
      k_dflt (refine nCell (c := L0 + 1 + 1) (o := oD') (v := .ref Dd) rfl (N5 (L0 + 1 + 1, oD') (by k_mem)).1 dD5 ?_ rfl rfl)
      have hld := (N5 (Dd, lsO ysd ed) (by k_mem)).1
      have hydl : ysd.length = octs.length := by rw [hRd.length, List.length_map]
      refine Halt.out ⟨_, _, _, Src.list (items := List.toArray ysd) ⟨_, hld, rfl, _, rfl⟩, ?_, ?_, ?_, ?_⟩
      · rw [List.size_toArray, hydl, hol]; exact Nat.le_trans hn9 (by decide)
      · intro b hb; rw [List.mem_singleton.mp hb]; exact Heap.lt_size hld
      · intro i v ys s₃ C m₃ E3 hi hP hR hmv hx3 hns hm hlen
        refine wpAny_tests_nil ?_
        simp only [if_true]
        refine ⟨Mv.refl _, Ext.refl _, ?_⟩
        have hsub : Sub h0 s₃.heap := (Sub.of F5.keep).trans' hx3
        obtain ⟨x, tx, hx1, rfl⟩ := strs_at hRd (by simpa using hP)
        rw [List.getElem?_map] at hx1
        obtain ⟨o, ho, rfl⟩ : ∃ o, octs[i]? = some o ∧ x = latin o := by
          cases hq : octs[i]? with
          | none => rw [hq] at hx1; cases hx1
          | some o => rw [hq] at hx1; exact ⟨o, rfl, (Option.some.inj hx1).symm⟩
        have hol2 := ho2 o (List.mem_of_getElem? ho)
        have XKs : (hd1.heap_39 w0.params).In s₃.heap := fun a o e => hsub.get (G.K a o e)
        k_steps
        refine Halt.out ?_
        refine item_tells G hsub ?_ ?_ ?_ ?_ ?_
        · decide
        · decide
        · intro c hc
          simp only [latin, List.mem_map] at hc
          obtain ⟨u, -, rfl⟩ := hc
          exact u.toNat_lt
        · simp [latin, PySem.Str.length]; omega
        intro h7 tk7 t7 x7
        rw [itemB_latin]
        refine Halt.out ⟨⟨_, _, rfl⟩, x7, ?_⟩
        rw [List.take_add_one, ho, List.map_append]
        exact Paired.snoc hR ⟨_, rfl⟩
      · intro Dj h6 tk6 ysj ej hR hlen hD hp hext
        obtain ⟨F6, N6⟩ := news_add F5 N5 hext hD hp
        clear F5 N5
        rw [List.size_toArray, hydl, List.take_of_length_le (Nat.le_refl _)] at hR
        have hel := encB_len ho2
        k_steps
        refine join_bytes (N6 _ (.head _)).1 hR (by rw [encB_eq]; omega) ?_
        intro t7 k7
        rw [encB_eq]
        k_steps
        refine Halt.out ?_
        have f6 : (∀ x ∈ octs.map latin, NoHit w0 48 x ∧ x.length ≤ 100) := by
          intro x hx
          obtain ⟨o, ho, rfl⟩ := List.mem_map.mp hx
          have := honom o ho
          simp only [noms, List.mem_cons, List.not_mem_nil, or_false] at this
          rcases this with rfl | rfl | rfl | rfl | rfl | rfl | rfl | rfl <;> exact ⟨fun t => by kernel_rfl, by decide +kernel⟩
        have hT0 : h6.get? 230 = some (tabObj #[]) := (N6 (230, tabObj #[]) (by k_mem)).1
        refine names_tells (xs := octs) G (Sub.of F6.keep) ?_ ?_ ho2 (by omega) (.inl hT0) f0 hC ?_
        · decide
        · decide
        intro h7 tk7 Dm vsm em x7 gm hDm hvm T7
        obtain ⟨tab, ex, e230, hex, hTb⟩ := TabOk.ents T7
        have g230 := (N6 (230, tabObj #[]) (by k_mem)).2.2
        obtain ⟨F7, led, N7, hled, hback⟩ := frame_add F6 x7 g230 (N6 (230, tabObj #[]) (by k_mem)).2.1.symm e230 ex (fun p hp => ⟨(hex p hp).1, .inr (hex p hp).2.2⟩)
        have hTb' : ∀ h' : Heap, News h0 L0 h' ((230, tab) :: led) → (∀ b o, h0.get? b = some o → h'.get? b = some o) → TabOk (Str.ofString "_law_stream.<locals>.<lambda>") h0 h' 124 18 := fun h' n q => hTb h' (n _ (.head _)).1 (hback h' (fun p hp => (n p (.tail _ hp)).1) q)
        have hDm0 : h0.get? Dm = none := get_none_sub F6.keep gm
        have N8 : News h0 L0 h7 ((Dm, lsO vsm em) :: (Dd, lsO ysd ed) :: (Dn, lsO vsn 0) :: (L0 + 1 + 1 + 1, oK) :: (L0 + 1 + 1, oD') :: (L0 + 1, oN') :: (230, tab) :: led) := by
          have keep : ∀ {p : Addr × Obj}, p ∈ _ → p.2 ≠ tabObj #[] → h7.get? p.1 = some p.2 ∧ p.1 ≠ L0 ∧ h0.get? p.1 = none := fun {p} hp hne =>
            ⟨x7.keep _ _ (fun q => hne (by rw [List.mem_singleton] at q; have e := (N6 p hp).1; rw [q, hT0] at e; exact (Option.some.inj e).symm)) (N6 p hp).1, (N6 p hp).2⟩
          have cne : ∀ {o : Obj} {v : Option Value}, o.data = .cell v → o ≠ tabObj #[] := fun e q => by rw [q] at e; cases e
          obtain ⟨oL, _, _, hLo, _⟩ := F6.ns
          exact nCons ⟨hDm, (ne_of_get hLo gm).symm, hDm0⟩ (nCons (keep (p := (Dd, lsO ysd ed)) (by k_mem) (fun q => by cases q)) (nCons (keep (p := (Dn, lsO vsn 0)) (by k_mem) (fun q => by cases q)) (nCons (keep (p := (L0 + 1 + 1 + 1, oK)) (by k_mem) (cne dK'))
            (nCons (keep (p := (L0 + 1 + 1, oD')) (by k_mem) (cne dD5)) (nCons (keep (p := (L0 + 1, oN')) (by k_mem) (cne dN3)) (nCons (N7 _ (.head _)) (fun p hp => N7 p (.tail _ hp))))))))
        have hDd230 : Dd ≠ 230 := by
          rintro rfl
          have e := (N6 (230, lsO ysd ed) (by k_mem)).1
          rw [show h6.get? (230, lsO ysd ed).1 = _ from hT0] at e
          cases e
        clear F6 N6 N7 hback hTb hex hT0 T7 x7 hled e230
        k_steps
        refine Halt.out ?_
        (rename Fr h0 _ _ _ => F8); (rename News h0 _ _ _ => N9)
        have hpO := places_ok honom
        refine places_tells G (Sub.of F8.keep) ?_ ?_ (N9 (Dm, lsO vsm em) (by k_mem)).1 hvm (by rw [List.length_map]; omega) f6 ?_
        · decide
        · decide
        intro h9 tk9 Dp vsp ep x9 gp hDp hvp
        obtain ⟨F9, N10⟩ := news_add F8 N9 x9 gp hDp
        clear F8 N9
        k_steps
        refine Halt.out ?_
        (rename Fr h0 _ _ _ => F10); (rename News h0 _ _ _ => N11)
        have hok : ∀ x ∈ octs.map latin, PyData.canLay0 (.str x) = true := by
          intro x hx
          obtain ⟨o, ho, rfl⟩ := List.mem_map.mp hx
          have := honom o ho
          simp only [noms, List.mem_cons, List.not_mem_nil, or_false] at this
          rcases this with rfl | rfl | rfl | rfl | rfl | rfl | rfl | rfl <;> decide +kernel
        refine ne_strs (News.isList N11 (show (Dm, listOf (List.toArray vsm) em) ∈ _ by k_mem)) (News.isList N11 (show (Dd, listOf (List.toArray ysd) ed) ∈ _ by k_mem)) hvm hRd hok (by ke_room) ?_
        k_steps
        refine Halt.out ?_
        (rename Fr h0 _ _ _ => F11); (rename News h0 _ _ _ => N12)
        have hpl9 : vsp.length ≤ 9 := by rw [hvp.length, List.length_map, hpO.len]; omega
        refine sorted_N F11 N12 (News.isList N12 (show (Dp, listOf (List.toArray vsp) ep) ∈ _ by k_mem)) hvp (by omega) ?_
        intro h12 vss nss es F12 N13 hvss hperm hsort
        have hnss : nss = (List.range octs.length).map Int.ofNat := by
          refine List.Perm.eq_of_pairwise (le := (· ≤ ·)) (fun a b _ _ => Int.le_antisymm) hsort ?_ (hperm.trans (hpO.perm.map _))
          refine List.pairwise_map.mpr (List.Pairwise.imp ?_ List.pairwise_lt_range)
          intro a b h
          exact Int.ofNat_le.mpr (Nat.le_of_lt h)
        subst hnss
        clear hperm hsort F11 N12
        generalize hDs : @HAdd.hAdd Nat Nat Nat _ _ 1 = Ds at N13 ⊢
        k_steps
        have hld12 := News.isList N13 (show (Dd, listOf (List.toArray ysd) ed) ∈ _ by k_mem)
        refine Halt.out ?_
        refine call_len_list hld12 (by rw [List.size_toArray, hydl]; omega) ?_
        k_steps
        refine Halt.out ?_
        refine call_range_1 ?_
        k_steps
        refine Halt.out ?_
        have hz12 : (List.toArray ysd).size = octs.length := by rw [List.size_toArray, hydl]
        refine list_rangeD (n := octs.length) rfl (F12.push _) (News.ext N13 (sub_push _ _) (fun p _ => by simp)) (IsRange.new _ _ _ _ _ _ _) (small_one (by omega) (by omega) (by omega) (by omega)) (by rw [rangeSize_one]; split <;> omega) (by omega) ?_
        intro h14 tk14 ysr F14 N14 x14 g14 hl14 hnp14 hc14
        k_steps
        refine Halt.out ?_
        have hri : rangeInts 0 1 octs.length = (List.range octs.length).map Int.ofNat := by
          refine List.ext_getElem? fun i => ?_
          by_cases hi : i < octs.length <;> simp [rangeInts, hi]
        have hj14 : IntsAre ysr ((List.range octs.length).map Int.ofNat) := by
          rw [hri] at hc14
          have := CarriedAll.intsOf (f := id) (as := (List.range octs.length).map Int.ofNat) hc14
          simpa using this
        refine ke_ne_ints (News.isList N14 (show (Ds, listOf (List.toArray vss) es) ∈ _ by k_mem)) hl14 hvss hj14 (by ke_room) ?_
        rw [decide_eq_true rfl]
        replace N14 : News h0 L0 h14 ((Dp, lsO vsp ep) :: (Dm, lsO vsm em) :: (Dd, lsO ysd ed) :: (Dn, lsO vsn 0) :: (L0 + 1 + 1 + 1, oK) :: (L0 + 1 + 1, oD') :: (L0 + 1, oN') :: (230, tab) :: led) := fun p hp => N14 p (.tail _ hp)
        clear hnp14 hl14 hj14 hc14 g14 x14 hld12 N13 F12 hvss hDs hri
        k_steps
        refine Halt.out ?_
        refine rings_tells (pl := placesOf (octs.map latin)) G (Sub.of F14.keep) ?_ ?_ (N14 (Dm, lsO vsm em) (by k_mem)).1 hvm (N14 (Dp, lsO vsp ep) (by k_mem)).1 hvp (by rw [List.length_map]; omega) (by rw [hpO.len, List.length_map]) (by rw [List.length_map]; exact hpO.lt) ?_
        · decide
        · decide
        intro h15 tk15 Dr vsr er inr x15 gr hDr hinr hbag
        rw [List.length_map] at hbag
        obtain ⟨hcyc, hflat⟩ := rings_all hpO
        have hlt0 : ∀ r ∈ (ringsTo (placesOf (octs.map latin)) octs.length).2, ∀ a ∈ r, a < octs.length := fun r hr a ha => List.mem_range.mp (hflat.mem_iff.mp (List.mem_flatten.mpr ⟨r, hr, ha⟩))
        have hmapr : ∀ r ∈ (ringsTo (placesOf (octs.map latin)) octs.length).2, (r.map fun a => (octs.map latin).getD a default) = (r.map fun a => octs.getD a []).map latin := fun r hr => by
          rw [List.map_map]
          refine List.map_congr_left fun a ha => ?_
          have := hlt0 r hr a ha
          simp [List.getD_eq_getElem?_getD, List.getElem?_map, List.getElem?_eq_getElem this]
        rw [List.map_congr_left hmapr] at hbag
        have F15 := Fr.ext F14 x15 (by simp) (by simp)
        have N15 : News h0 L0 h15 ((Dr, lsO vsr er) :: (Dp, lsO vsp ep) :: (Dm, lsO vsm em) :: (Dd, lsO ysd ed) :: (Dn, lsO vsn 0) :: (L0 + 1 + 1 + 1, oK) :: (L0 + 1 + 1, oD') :: (L0 + 1, oN') :: (230, tab) :: (inr ++ led)) := by
          obtain ⟨oL, _, _, hLo, _⟩ := F14.ns
          have fresh : ∀ {p : Addr × Obj}, h15.get? p.1 = some p.2 → h14.get? p.1 = none → h15.get? p.1 = some p.2 ∧ p.1 ≠ L0 ∧ h0.get? p.1 = none := fun e n => ⟨e, (ne_of_get hLo n).symm, get_none_sub F14.keep n⟩
          have old := News.ext N14 x15 (fun p _ => by simp)
          exact nCons (fresh hDr gr) (nCons (old _ (by k_mem)) (nCons (old _ (by k_mem)) (nCons (old _ (by k_mem)) (nCons (old _ (by k_mem)) (nCons (old _ (by k_mem)) (nCons (old _ (by k_mem)) (nCons (old _ (by k_mem)) (nCons (old _ (by k_mem)) (fun p hp => (List.mem_append.mp hp).elim (fun h => fresh (hinr p h).1 (hinr p h).2) fun h => old p (.tail _ (.tail _ (.tail _ (.tail _ (.tail _ (.tail _ (.tail _ (.tail _ (h))))))))))))))))))
        clear F14 N14
        k_steps
        refine getMethod_builtin (typeIs_bytes _ _ _) FB.plainAttrs_bytes slot_bytes_join type_bytes_join (fun _ e => nomatch e) ?_
        k_steps
        refine Halt.out ?_
        (rename Fr h0 _ _ _ => F16); (rename News h0 _ _ _ => N16)
        have hbo := bag_ok honom nums.sum
        have hbagOf : bagOf octs (placesOf (octs.map latin)) nums.sum = ((ringsTo (placesOf (octs.map latin)) octs.length).2.reverse).map fun r => rotL (r.map fun a => octs.getD a []) (nums.sum % r.length).toNat := rfl
        have hrl : (ringsTo (placesOf (octs.map latin)) octs.length).2.length ≤ 9 := by
          have := hbo.len
          rw [hbagOf, List.length_map, List.length_reverse] at this
          omega
        generalize hrr : (ringsTo (placesOf (octs.map latin)) octs.length).2 = rr at hbag hcyc hflat hlt0 hmapr hbagOf hrl
        k_dflt (refine comp1S (cl := [(Str.ofString "numbers", L0 + 1)]) (fun i ys => BytesAre ys ((rr.reverse.take i).map fun r => r.length.toUInt8 :: encB (rotL (r.map fun a => octs.getD a []) (nums.sum % (r.length : Int)).toNat))) rfl rfl (by decide) rfl (by decide) rfl (by simp only [List.take_zero, List.map_nil]; exact Paired.nil) ?_)
        k_steps
        refine Halt.out ?_
        k_dflt (refine' krv_lit (its := vsr.toArray) (zs := vsr.reverse) F16 N16 (News.isList N16 (show (Dr, listOf (List.toArray vsr) er) ∈ _ by k_mem)) (IsPart.int _ _) rfl ?_ ?s ?t ?z; (case s => with_unfolding_all rfl); (case t => kmk_pure); (case z => rw [List.size_toArray, Paired.length hbag, List.length_map]; exact Nat.le_trans hrl (by decide)))
        intro Dv h17 F17 N17 l17
        clear F16 N16
        have hrevl : vsr.reverse.length = rr.length := by rw [List.length_reverse, Paired.length hbag, List.length_map]
        refine Halt.out ⟨_, _, _, Src.list (News.isList N17 (.head _)), ?_, ?_, ?_, ?_⟩
        · rw [List.size_toArray, hrevl]; exact Nat.le_trans hrl (by decide)
        · intro b hb; rw [List.mem_singleton.mp hb]; exact Heap.lt_size (N17 _ (.head _)).1
        · intro i v ys s₃ C m₃ E3 hi hP hR hmv hx3 hns hm hlen
          refine wpAny_tests_nil ?_
          simp only [if_true]
          refine ⟨Mv.refl _, Ext.refl _, ?_⟩
          have hsub : Sub h0 s₃.heap := (Sub.of F17.keep).trans' hx3
          have hi2 : i < rr.length := by rw [← hrevl]; simpa using hi
          obtain ⟨rgs, hrg, a, ws, e, rfl, hain, hws⟩ := paired_at2 (paired_rev hbag) i (show (vsr.reverse)[i]? = some v by simpa using hP)
          k_steps
          refine Halt.out ?_
          have hcel : s₃.heap.get? (L0 + 1) = some oN' := hx3.get (N17 (L0 + 1, oN') (by k_mem)).1
          have hlsn : s₃.heap.IsList Dn vsn.toArray := ⟨_, hx3.get (N17 (Dn, lsO vsn 0) (by k_mem)).1, rfl, _, rfl⟩
          k_dflt (refine nCell (c := L0 + 1) (o := oN') (v := .ref Dn) rfl hcel dN3 ?_ rfl rfl)
          k_steps
          refine Halt.out ?_
          refine sum_heap rfl hlsn hin ?_
          intro h18 tk18 t18 x18
          have XKs : (hd1.heap_39 w0.params).In h18 := fun a o e => (hsub.trans' x18).get (G.K a o e)
          k_steps
          refine Halt.out ?_
          rw [← List.map_reverse, List.getElem?_map] at hrg
          obtain ⟨r, hr, rfl⟩ : ∃ r, rr.reverse[i]? = some r ∧ rgs = (r.map fun a => octs.getD a []).map latin := by
            cases hq : rr.reverse[i]? with
            | none => rw [hq] at hrg; cases hrg
            | some r => rw [hq] at hrg; exact ⟨r, rfl, (Option.some.inj hrg).symm⟩
          have hrm : r ∈ rr := List.mem_reverse.mp (List.mem_of_getElem? hr)
          have hrb := hbo.ring (rotL (r.map fun a => octs.getD a []) (nums.sum % r.length).toNat) (by rw [hbagOf]; exact List.mem_map_of_mem (List.mem_reverse.mpr hrm))
          rw [rotL_len', List.length_map] at hrb
          have hra := hx3.get (N17 (a, lsO ws e) (by simp only [List.mem_cons, List.mem_append]; exact .inr (.inr (.inr (.inr (.inr (.inr (.inr (.inr (.inr (.inr (.inl hain)))))))))))).1
          have hra' : h18.get? a = some (lsO ws e) := x18.get hra
          refine laid_tells (eg := e) (ws := ws) (ring := r.map fun a => octs.getD a []) G ?_ ?_ ?_ ?_ hws (by rw [List.length_map]; exact hrb.1) (by rw [List.length_map]; omega) ?_ ?_
          · exact hsub.trans' x18
          · decide
          · decide
          · exact hra'
          · intro x hx
            obtain ⟨b, hb, rfl⟩ := List.mem_map.mp hx
            exact ho2 _ (List.mem_of_getElem? (show octs[b]? = some _ by
              have := hlt0 r hrm b hb
              rw [List.getD_eq_getElem?_getD, List.getElem?_eq_getElem this]; rfl))
          intro h19 tk19 t19 x19
          refine Halt.out ⟨⟨_, _, rfl⟩, x18.trans' x19, ?_⟩
          rw [List.take_add_one, hr, List.map_append, List.length_map]
          exact Paired.snoc hR ⟨_, rfl⟩
        · intro Dj2 h18 tk18 ysj2 ej2 hR hlen hD hp hext
          rw [List.size_toArray, hrevl, List.take_of_length_le (by rw [List.length_reverse]; exact Nat.le_refl _)] at hR
          obtain ⟨F18, N18⟩ := news_add F17 N17 hext hD hp
          clear F17 N17
          k_steps
          have henc : ((rr.reverse.map fun r => r.length.toUInt8 :: encB (rotL (r.map fun a => octs.getD a []) (nums.sum % (r.length : Int)).toNat))).flatten = encR (bagOf octs (placesOf (octs.map latin)) nums.sum) := by
            rw [hbagOf]
            simp only [encR, List.flatMap, List.map_map]
            congr 1
            refine List.map_congr_left fun r _ => ?_
            simp only [Function.comp, rotL_len', List.length_map]
          have hxb : ∀ r ∈ bagOf octs (placesOf (octs.map latin)) nums.sum, r.length ≤ 9 ∧ ∀ x ∈ r, x.length ≤ 2 := fun r hr => by
            obtain ⟨h1, h2, h3, -⟩ := hbo.ring r hr
            refine ⟨by omega, fun x hx => ?_⟩
            have := h3 x hx
            simp only [noms, List.mem_cons, List.not_mem_nil, or_false] at this
            rcases this with rfl | rfl | rfl | rfl | rfl | rfl | rfl | rfl <;> decide
          have hnb : (bagOf octs (placesOf (octs.map latin)) nums.sum).length ≤ 9 := Nat.le_trans hbo.len (by omega)
          have hel2 := encR_len hxb hnb
          refine join_bytes (N18 _ (.head _)).1 hR (by rw [henc]; omega) ?_
          intro t19 k19
          rw [henc]
          k_steps
          refine Halt.out ?_
          have hTb18 : TabOk (Str.ofString "_law_stream.<locals>.<lambda>") h0 h18 124 18 := hTb' h18 (nCons (N18 _ (by k_mem)) fun p hp => N18 p (.tail _ (.tail _ (.tail _ (.tail _ (.tail _ (.tail _ (.tail _ (.tail _ (.tail _ (.tail _ (.tail _ (List.mem_append_right _ hp))))))))))))) F18.keep
          refine bag_tells (rs := bagOf octs (placesOf (octs.map latin)) nums.sum) G (Sub.of F18.keep) ?_ ?_ hxb hnb hTb18 f0 hC ?_
          · decide
          · decide
          intro h20 tk20 Db vsb eb inb x20 gb hDb hinb hbg T20
          obtain ⟨pst, hpst⟩ : ∃ ps, h20.get? 230 = some (tabObj ps) := by
            rcases T20 with h | ⟨c', oc, vs, t, h, _⟩
            · exact ⟨_, h⟩
            · exact ⟨_, h⟩
          have F20 : Fr h0 L0 h20 _ := Fr.ext F18 x20 (by simpa using (N18 (230, tab) (by k_mem)).2.1.symm) (by simpa using g230)
          have N20 : News h0 L0 h20 ((Db, lsO vsb eb) :: (Dd, lsO ysd ed) :: (L0 + 1 + 1 + 1, oK) :: (L0 + 1 + 1, oD') :: (230, tabObj pst) :: inb) := by
            obtain ⟨oL, _, _, hLo, _⟩ := F18.ns
            have fresh : ∀ {p : Addr × Obj}, h20.get? p.1 = some p.2 → h18.get? p.1 = none → h20.get? p.1 = some p.2 ∧ p.1 ≠ L0 ∧ h0.get? p.1 = none := fun e n => ⟨e, (ne_of_get hLo n).symm, get_none_sub F18.keep n⟩
            have old : ∀ {p : Addr × Obj}, p ∈ _ → p.1 ≠ 230 → h20.get? p.1 = some p.2 ∧ p.1 ≠ L0 ∧ h0.get? p.1 = none := fun {p} hp hne => ⟨x20.keep _ _ (fun q => hne (List.mem_singleton.mp q)) (N18 p hp).1, (N18 p hp).2⟩
            exact nCons (fresh hDb gb) (nCons (old (p := (Dd, lsO ysd ed)) (by k_mem) hDd230) (nCons (old (p := (L0 + 1 + 1 + 1, oK)) (by k_mem) (show @Ne Nat _ _ by omega)) (nCons (old (p := (L0 + 1 + 1, oD')) (by k_mem) (show @Ne Nat _ _ by omega))
              (nCons (p := (230, tabObj pst)) ⟨hpst, (N18 (230, tab) (by k_mem)).2⟩ (fun p hp => fresh (hinb p hp).1 (hinb p hp).2)))))
          clear F18 N18
          k_steps
          refine Halt.out ?_
          (rename Fr h0 _ _ _ => F21); (rename News h0 _ _ _ => N21)
          have hring := hbo.ring
          have hrows := hbo.rows
          generalize hbd : bagOf octs (placesOf (octs.map latin)) nums.sum = bag at hbg hxb hnb hring hrows hbagOf hel2
          clear hbagOf hel2 henc
          k_dflt (refine comp2A (cl := [(Str.ofString "drawn", L0 + 1 + 1)]) rfl rfl rfl (by decide) rfl (by decide) rfl rfl (by decide) rfl rfl ?_)
          walk1
          have hbl : vsb.length = bag.length := by rw [Paired.length hbg, List.length_map]
          have hlb := (N21 (Db, lsO vsb eb) (by k_mem)).1
          refine Halt.out ⟨_, _, _, _, h0, _, Src.list (items := List.toArray vsb) ⟨_, hlb, rfl, _, rfl⟩, ?_, F21, N21, ?_⟩
          · intro b hb; rw [List.mem_singleton.mp hb]; exact Heap.lt_size hlb
          intro I C D gI gC gD hCD hID hIC hCge
          obtain ⟨oL, _, _, hLo, _⟩ := id F21.ns
          have hpre : ∀ i, ((bag.take i).flatMap fun x => rowsTo x octs.length x.length).length ≤ 9 := fun i => by
            have h1 := hrows.length_eq
            rw [List.length_map, List.length_range] at h1
            have h2 : bag = bag.take i ++ bag.drop i := (List.take_append_drop i bag).symm
            have h3 : (bag.flatMap fun x => rowsTo x octs.length x.length).length = _ := congrArg (fun b => (List.flatMap (fun x => rowsTo x octs.length x.length) b).length) h2
            rw [List.flatMap_append, List.length_append] at h3
            omega
          refine ⟨fun i ys h => RowsH h0 L0 [C, D, I, L0 + 1 + 1 + 1] h ys ((bag.take i).flatMap fun x => rowsTo x octs.length x.length), ?_, ?_, ?_, ?_⟩
          · rintro i ys h h' r x
            exact r.move x fun a ha => by
              simp only [List.mem_cons, List.not_mem_nil, or_false] at ha ⊢
              rcases ha with h | h | h <;> simp [h]
          · exact ⟨[], by simp, by rw [List.take_zero, List.flatMap_nil]; exact Paired.nil⟩
          · intro i v ys s₃ m₃ E3 hi hP hRl hmv hx3 hns hm hIs hDs
            refine wpAny_tests_nil ?_
            simp only [if_true]
            refine ⟨Mv.refl _, Ext.refl _, ?_⟩
            have hsub : Sub h0 s₃.heap := (Sub.of F21.keep).trans' hx3
            have hi2 : i < bag.length := by rw [← hbl]; simpa using hi
            obtain ⟨rgs, hrg, a, ws, e, rfl, hain, hws⟩ := paired_at2 hbg i (show vsb[i]? = some v by simpa using hP)
            obtain ⟨ring, hrn, rfl⟩ : ∃ ring, bag[i]? = some ring ∧ rgs = ring.map latin := by
              rw [List.getElem?_map, List.getElem?_eq_getElem hi2] at hrg
              exact ⟨_, List.getElem?_eq_getElem hi2, (Option.some.inj hrg).symm⟩
            have hrb := hring ring (List.mem_of_getElem? hrn)
            have XKs : (hd1.heap_39 w0.params).In s₃.heap := fun a o e => hsub.get (G.K a o e)
            k_steps
            refine Halt.out ?_
            have hcel : s₃.heap.get? (L0 + 1 + 1) = some oD' := hx3.get (N21 (L0 + 1 + 1, oD') (by k_mem)).1
            have hlsd : s₃.heap.IsList Dd ysd.toArray := ⟨_, hx3.get (N21 (Dd, lsO ysd ed) (by k_mem)).1, rfl, _, rfl⟩
            k_dflt (refine nCell (c := L0 + 1 + 1) (o := oD') (v := .ref Dd) rfl hcel dD5 ?_ rfl rfl)
            k_steps
            refine Halt.out ?_
            refine call_len_list hlsd (by omega) ?_
            k_steps
            refine Halt.out ?_
            have hra : s₃.heap.get? a = some (lsO ws e) := hx3.get (N21 (a, lsO ws e) (by simp only [List.mem_cons]; exact .inr (.inr (.inr (.inr (.inr hain)))))).1
            refine rows_tells (eg := e) (ws := ws) (ring := ring) (n := octs.length) G ?_ ?_ ?_ ?_ hws hrb.1 (by omega) hrb.2.2.1 (by rw [hz12]) (by omega) hrb.2.2.2 ?_
            · exact hsub
            · decide
            · decide
            · exact hra
            intro h5 tk5 D1 vs1 e1 in1 x5 g1 hD1 hin1 hr1
            refine Halt.out ⟨⟨_, _, rfl⟩, x5, _, _, _, Src.list (items := List.toArray vs1) ⟨_, hD1, rfl, _, rfl⟩, ?_, ?_⟩
            · intro b hb; rw [List.mem_singleton.mp hb]; exact ⟨g1, Heap.lt_size hD1⟩
            intro I1 gI1
            obtain ⟨oC, _, _, hCo, _⟩ := id hns
            have hl1 : vs1.length = ring.length := by rw [Paired.length hr1]; simp [rowsTo]
            have hX : ∀ p : Addr × Obj, p ∈ in1 → p.1 ∉ [C, D, I, L0 + 1 + 1 + 1] ∧ h0.get? p.1 = none ∧ p.1 ≠ L0 := fun p hp => by
              have n := (hin1 p hp).2
              refine ⟨fun q => ?_, get_none_sub (fun b o e => hsub.get e) n, ?_⟩
              · simp only [List.mem_cons, List.not_mem_nil, or_false] at q
                rcases q with q | q | q | q
                · exact ne_of_get hCo n q.symm
                · rw [q] at n; rw [n] at hDs; cases hDs
                · rw [q] at n; rw [n] at hIs; cases hIs
                · exact ne_of_get (hx3.get (N21 (L0 + 1 + 1 + 1, oK) (by k_mem)).1) n q.symm
              · rintro q
                exact ne_of_get (hx3.get hLo) n q.symm
            obtain ⟨inner, hinn, hrw⟩ := hRl
            have h5n : ∀ p ∈ inner ++ in1, h5.get? p.1 = some p.2 ∧ p.1 ∉ [D, C, I1] ∧ p.1 ∉ [C, D, I, L0 + 1 + 1 + 1] ∧ h0.get? p.1 = none ∧ p.1 ≠ L0 := fun p hp => by
              have h : h5.get? p.1 = some p.2 ∧ p.1 ∉ [C, D, I, L0 + 1 + 1 + 1] ∧ h0.get? p.1 = none ∧ p.1 ≠ L0 := by
                rcases List.mem_append.mp hp with hp | hp
                · exact ⟨x5.get (hinn p hp).1, (hinn p hp).2⟩
                · exact ⟨(hin1 p hp).1, hX p hp⟩
              have hne : p.1 ≠ I1 := ne_of_get h.1 gI1
              have h2 := h.2.1
              simp only [List.mem_cons, List.not_mem_nil, or_false, not_or] at h2
              exact ⟨h.1, by simp only [List.mem_cons, List.not_mem_nil, or_false, not_or]; exact ⟨h2.2.1, h2.1, hne⟩, h.2⟩
            refine ⟨fun j zs h => (∀ p ∈ inner ++ in1, h.get? p.1 = some p.2) ∧ RowsN (inner ++ in1) zs (((bag.take i).flatMap fun x => rowsTo x octs.length x.length) ++ (rowsTo ring octs.length ring.length).take j), ?_, ?_, ?_, ?_, ?_⟩
            · rintro j zs h h' ⟨r1, r2⟩ x
              exact ⟨fun p hp => x.keep _ _ (h5n p hp).2.1 (r1 p hp), r2⟩
            · refine ⟨fun p hp => (h5n p hp).1, ?_⟩
              rw [List.take_zero, List.append_nil]
              exact rowsN_mono hrw fun p hp => List.mem_append_left _ hp
            · rintro j zs h ⟨_, r2⟩
              rw [Paired.length r2, List.length_append, List.length_take]
              have h1 := hpre i
              have h2 : (rowsTo ring octs.length ring.length).length ≤ 9 := by simp only [rowsTo, List.length_map, List.length_range]; omega
              exact Nat.le_trans (show _ ≤ 18 by omega) (by decide)
            · rintro j v1 zs s₆ m₆ E6 hj hP1 ⟨r1, r2⟩ hmv6 hx6 hk6 hns6 hm6 hm60
              refine wpAny_tests_nil ?_
              simp only [if_true]
              refine ⟨Mv.refl _, Ext.refl _, ?_⟩
              k_steps
              have hj1 : vs1[j]? = some v1 := by simpa using hP1
              obtain ⟨rw1, hrw1, hv1⟩ := paired_at2 hr1 j hj1
              have hj2 : j < vs1.length := by
                rcases Nat.lt_or_ge j vs1.length with q | q
                · exact q
                · rw [List.getElem?_eq_none q] at hj1; cases hj1
              refine Halt.out ⟨Mv.refl _, Ext.refl _, r1, ?_⟩
              rw [List.take_add_one, hrw1, ← List.append_assoc]
              refine Paired.snoc r2 ?_
              obtain ⟨a', b', ws', e', t', q1, q2, q3, q4⟩ := hv1
              exact ⟨a', b', ws', e', t', q1, List.mem_append_right _ q2, List.mem_append_right _ q3, q4⟩
            · rintro zs h ⟨r1, r2⟩
              refine ⟨inner ++ in1, fun p hp => ⟨r1 p hp, (h5n p hp).2.2⟩, ?_⟩
              rw [List.size_toArray, hl1, List.take_of_length_le (l := rowsTo ring octs.length ring.length) (by simp [rowsTo])] at r2
              rw [List.take_add_one, hrn, List.flatMap_append]
              show RowsN _ _ (_ ++ List.flatMap _ [ring])
              rw [List.flatMap_singleton]
              exact r2
          · intro h' h'' tk' ys e hR hsub hx F22 N22
            rw [List.size_toArray, hbl, List.take_of_length_le (Nat.le_refl _)] at hR
            change Fr h0 L0 h'' _ at F22
            change News h0 L0 h'' _ at N22
            change Ext [L0, C] h' h'' at hx
            generalize hrt : (bag.flatMap fun x => rowsTo x octs.length x.length) = rt at hR hrows
            obtain ⟨inner, hinn, hrw⟩ : ∃ inner : List (Addr × Obj), (∀ p ∈ inner, h''.get? p.1 = some p.2 ∧ p.1 ≠ L0 ∧ h0.get? p.1 = none ∧ p.1 ≠ L0 + 1 + 1 + 1) ∧ RowsN inner ys rt := by
              obtain ⟨inner, hi, hr⟩ := hR
              refine ⟨inner, fun p hp => ?_, hr⟩
              obtain ⟨n1, n2, n3, n4⟩ := hi p hp
              simp only [List.mem_cons, List.not_mem_nil, or_false, not_or] at n2
              exact ⟨hx.keep _ _ (by simp [n4, n2.1]) n1, n4, n3, n2.2.2.2⟩
            have N23 : News h0 L0 h'' ((D, lsO ys e) :: (Dd, lsO ysd ed) :: (L0 + 1 + 1 + 1, oK) :: (L0 + 1 + 1, oD') :: (230, tabObj pst) :: inner) := by
              exact nCons (N22 _ (by k_mem)) (nCons (N22 _ (by k_mem)) (nCons (N22 _ (by k_mem)) (nCons (N22 _ (by k_mem)) (nCons (N22 _ (by k_mem)) (fun p h => ⟨(hinn p h).1, (hinn p h).2.1, (hinn p h).2.2.1⟩)))))
            have hin3 : ∀ p ∈ inner, p.1 ≠ L0 + 1 + 1 + 1 := fun p hp => (hinn p hp).2.2.2
            clear N22 hR hx hsub hinn N21 F21 hlb
            k_steps
            refine Halt.out ?_
            (rename Fr h0 _ _ _ => F24); (rename News h0 _ _ _ => N24)
            have hyr := Paired.length hrw
            have hrt9 : rt.length ≤ 9 := by
              have := hrows.length_eq
              rw [List.length_map, List.length_range] at this
              omega
            k_dflt (refine comp1PS (cl := []) (fun i ks => KeysIn inner ks ((rt.take i).map (·.1))) rfl rfl (by decide) rfl (by decide) rfl rfl (by decide) (by rw [List.take_zero, List.map_nil]; exact Paired.nil) ?_)
            walk1
            have hlD := (N24 (D, lsO ys e) (by k_mem)).1
            have htup : ∀ (i : Nat) v, (List.toArray ys)[i]? = some v → ∃ r a b ws e1 t, rt[i]? = some r ∧ v = Value.ref a ∧ h''.get? a = some { cls := .type "tuple", data := .seq (List.toArray [Value.ref b, Value.str r.2 t]) 0 } ∧ (b, lsO ws e1) ∈ inner ∧ IntsAre ws r.1 := fun i v hv => by
              obtain ⟨r, hr, a, b, ws, e1, t, rfl, m1, m2, hi⟩ := paired_at2 hrw i (show ys[i]? = some v by simpa using hv)
              exact ⟨r, a, b, ws, e1, t, hr, rfl, (N24 (a, _) (.tail _ (.tail _ (.tail _ (.tail _ (.tail _ m1)))))).1, m2, hi⟩
            refine Halt.out ⟨D, List.toArray ys, rfl, ⟨_, hlD, rfl, _, rfl⟩, ?_, ?_, ?_, ?_⟩
            · rw [List.size_toArray, hyr]; exact Nat.le_trans hrt9 (by decide)
            · intro i v hv
              obtain ⟨r, a, b, ws, e1, t, hr, rfl, m1, m2, hi⟩ := htup i v hv
              exact ⟨a, _, _, rfl, _, m1, rfl, _, rfl⟩
            · intro i T x y zs s₃ C' m₃ E3 hv hT hR hmv hx3 hns hma hmb hlen hC'
              refine wpAny_tests_nil ?_
              simp only [if_true]
              refine ⟨Mv.refl _, Low.refl _, ?_⟩
              obtain ⟨r, a, b, ws, e1, t, hr, hva, m1, m2, hi⟩ := htup i _ hv
              cases hva
              obtain ⟨o, ho, hoc, n, hod⟩ := hT
              rw [show h''.get? T = _ from ho] at m1
              cases m1
              simp only [Data.seq.injEq] at hod
              have hx : x = .ref b := by
                have := congrArg (fun a : Array Value => a[0]?) hod.1
                simpa using this.symm
              subst hx
              k_steps
              refine Halt.out ⟨Mv.refl _, Low.refl _, ⟨_, hns⟩, ?_⟩
              rw [List.take_add_one, hr, List.map_append]
              exact Paired.snoc hR ⟨b, ws, e1, rfl, m2, hi⟩
            · intro Dk h25 tk25 ks ek hR hlen hDk hpk hext
              rw [List.size_toArray, hyr, List.take_of_length_le (Nat.le_refl _)] at hR
              obtain ⟨F25, N25⟩ := news_add F24 N24 hext hDk hpk
              clear F24 N24 hlD htup
              k_steps
              refine Halt.out ?_
              have hKD : Dk ≠ L0 + 1 + 1 + 1 := ne_of_get' (N25 (L0 + 1 + 1 + 1, oK) (by k_mem)).1 (N25 (Dk, lsO ks ek) (by k_mem)).1 (fun q => by change oK = _ at q; rw [q] at dK'; cases dK')
              have hDD : D ≠ L0 + 1 + 1 + 1 := ne_of_get' (N25 (L0 + 1 + 1 + 1, oK) (by k_mem)).1 (N25 (D, lsO ys e) (by k_mem)).1 (fun q => by change oK = _ at q; rw [q] at dK'; cases dK')
              have hDdD : Dd ≠ L0 + 1 + 1 + 1 := ne_of_get' (N25 (L0 + 1 + 1 + 1, oK) (by k_mem)).1 (N25 (Dd, lsO ysd ed) (by k_mem)).1 (fun q => by change oK = _ at q; rw [q] at dK'; cases dK')
              refine sorted_keysG F25 N25 (News.isList N25 (.head _)) (by rw [List.length_map]; omega) (by ke_room) hR (fun p hp => .tail _ (.tail _ (.tail _ (.tail _ (.tail _ (.tail _ (hp))))))) ?_
              intro Ds e26 h26 kvs kss hkp hkw hkin F26 N26 hDs
              have hkk : kss = (List.range octs.length).map fun a => (rowAt octs (placesOf (octs.map latin)) a).1 := keys_eq honom (hkp.trans (by have := hrows.map (·.1); rwa [List.map_map] at this)) hkw
              subst hkk
              have hDs3 : Ds ≠ L0 + 1 + 1 + 1 := fun q => by
                have := hDs (L0 + 1 + 1 + 1, oK) (by simp)
                rw [q] at this; exact Nat.lt_irrefl _ this
              k_steps
              refine Halt.out ?_
              k_dflt (refine storeCell F26 N26 rfl rfl rfl (show (L0 + 1 + 1 + 1, oK) ∈ _ by k_mem) dK' ?_)
              intro h27 oK' dK27 hN27 F27
              have N27 := hN27 ((Ds, lsO kvs e26) :: (D, lsO ys e) :: (Dd, lsO ysd ed) :: (L0 + 1 + 1 + 1, oK') :: (L0 + 1 + 1, oD') :: (230, tabObj pst) :: inner) (List.forall_mem_cons.mpr ⟨.inr ⟨by k_mem, hDs3⟩, List.forall_mem_cons.mpr ⟨.inr ⟨by k_mem, hDD⟩, List.forall_mem_cons.mpr ⟨.inr ⟨by k_mem, hDdD⟩, List.forall_mem_cons.mpr ⟨.inl rfl, List.forall_mem_cons.mpr ⟨.inr ⟨by k_mem, show @Ne Nat _ _ by omega⟩, List.forall_mem_cons.mpr ⟨.inr ⟨by k_mem, show @Ne Nat _ _ by omega⟩,
                fun p h => .inr ⟨.tail _ (.tail _ (.tail _ (.tail _ (.tail _ (.tail _ (.tail _ (h))))))), hin3 p h⟩⟩⟩⟩⟩⟩⟩)
              clear F26 N26 F25 N25 hN27 hDs
              k_steps
              refine Halt.out ?_
              have hyn : (List.toArray ys).size = octs.length := by
                have := hrows.length_eq
                rw [List.length_map, List.length_range] at this
                rw [List.size_toArray, hyr, this]
              refine call_len_list (News.isList N27 (show (D, listOf (List.toArray ys) e) ∈ _ by k_mem)) (by omega) ?_
              k_steps
              refine Halt.out ?_
              refine call_len_list (News.isList N27 (show (Dd, listOf (List.toArray ysd) ed) ∈ _ by k_mem)) (by omega) ?_
              rw [hyn, hz12]
              k_steps
              refine Halt.out ?_
              refine sorted_rowsG F27 N27 (News.isList N27 (show (D, listOf (List.toArray ys) e) ∈ _ by k_mem)) (by omega) (by ke_room) hrw (fun p hp => .tail _ (.tail _ (.tail _ (.tail _ (.tail _ (.tail _ (hp))))))) ?_
              intro Dr1 e28 h28 rvs rss hrp hrw1 hrin F28 N28 hDr1
              clear F27 N27
              k_steps
              refine Halt.out ?_
              k_dflt (refine comp1GL (cl := [(Str.ofString "keys", L0 + 1 + 1 + 1), (Str.ofString "drawn", L0 + 1 + 1)]) rfl rfl (by decide) rfl (by decide) rfl ?_)
              k_steps
              refine Halt.out ?_
              refine call_len_list (News.isList N28 (show (Dd, listOf (List.toArray ysd) ed) ∈ _ by k_mem)) (by omega) ?_
              rw [hz12]
              k_steps
              refine Halt.out ?_
              refine call_range_1 ?_
              refine Halt.out ⟨octs.length, _, [], Src.range (IsRange.new _ _ _ _ _ _ _) rfl (by omega), Nat.le_trans (show octs.length ≤ 9 by omega) (by decide), by simp, ?_⟩
              intro I C D2 gI gC gD hCD hCge hIC hDC
              obtain ⟨oL2, _, _, hLo2, _⟩ := id F28.ns
              have s28 : ∀ o, Sub h28 (h28.push o) := sub_push h28
              refine ⟨fun i zs h => ∃ tups : List (Addr × Obj), (∀ p ∈ tups, h.get? p.1 = some p.2 ∧ p.1 ∉ [C, D2, I] ∧ h0.get? p.1 = none ∧ p.1 ≠ L0) ∧ RowsN (tups ++ inner) zs ((List.range i).map (rowAt octs (placesOf (octs.map latin)))), ?_, ?_, ?_, ?_⟩
              · rintro i zs h h' ⟨tups, ht, hr⟩ x
                exact ⟨tups, fun p hp => ⟨x.keep _ _ (ht p hp).2.1 (ht p hp).1, (ht p hp).2⟩, hr⟩
              · exact ⟨[], by simp, Paired.nil⟩
              · rintro i v zs s₃ m₃ E3 hi ⟨tv, rfl⟩ ⟨tups, ht, hr⟩ hmv hx3 hns hm hlen hIs hDs'
                refine wpAny_tests_nil ?_
                simp only [if_true]
                refine ⟨Mv.refl _, Low.refl _, ?_⟩
                have hx28 : Sub h28 s₃.heap := (s28 _).trans' hx3
                have hcK : s₃.heap.get? (L0 + 1 + 1 + 1) = some oK' := hx28.get (N28 (L0 + 1 + 1 + 1, oK') (by k_mem)).1
                have hcD : s₃.heap.get? (L0 + 1 + 1) = some oD' := hx28.get (N28 (L0 + 1 + 1, oD') (by k_mem)).1
                have hlK : s₃.heap.IsList Ds kvs.toArray := ⟨_, hx28.get (N28 (Ds, lsO kvs e26) (by k_mem)).1, rfl, _, rfl⟩
                have hlD : s₃.heap.IsList Dd ysd.toArray := ⟨_, hx28.get (N28 (Dd, lsO ysd ed) (by k_mem)).1, rfl, _, rfl⟩
                have F9 := low_frame hns
                have N9 : News (lowH s₃.heap C) C s₃.heap [] := by intro p hp; cases hp
                have G9 := G.sub (((Sub.of F28.keep).trans' (s28 _)).trans' (low_sub hx3 hCge))
                have X9 := G9.K
                have T9 := G9.T
                generalize hgl9 : lowH s₃.heap C = g9 at F9 N9 G9 X9 T9
                k_steps
                refine Halt.out ?_
                k_dflt (refine nCell (c := L0 + 1 + 1 + 1) (o := oK') (v := .ref Ds) rfl hcK dK27 ?_ rfl rfl)
                k_steps
                refine Halt.out ?_
                have hkl : kvs.length = octs.length := by rw [Paired.length hkin, List.length_map, List.length_range]
                have hkv : kvs[i]? = some kvs[i] := List.getElem?_eq_getElem (by omega)
                obtain ⟨key, hkey, b, ws, e5, hb, hbin, hwsk⟩ := paired_at2 hkin i hkv
                rw [hb] at hkv
                have hkey' : key = (rowAt octs (placesOf (octs.map latin)) i).1 := by
                  rw [List.getElem?_map, List.getElem?_range hi] at hkey
                  exact (Option.some.inj hkey).symm
                subst hkey'
                refine item_at hlK (by omega) (by omega) (show kvs[((i : Nat) : Int).toNat]? = _ from hkv) ?_
                k_steps
                refine Halt.out ?_
                k_dflt (refine nCell (c := L0 + 1 + 1) (o := oD') (v := .ref Dd) rfl hcD dD5 ?_ rfl rfl)
                k_steps
                refine Halt.out ?_
                have hdv : ysd[i]? = some ysd[i] := List.getElem?_eq_getElem (by omega)
                obtain ⟨x1, t1, hx1, hx1v⟩ := strs_at hRd hdv
                rw [hx1v] at hdv
                have hx1' : x1 = (rowAt octs (placesOf (octs.map latin)) i).2 := by
                  rw [List.getElem?_map, List.getElem?_eq_getElem (by omega)] at hx1
                  rw [← Option.some.inj hx1]
                  simp [rowAt, List.getD_eq_getElem?_getD, hi]
                subst hx1'
                refine item_at hlD (by omega) (by omega) (show ysd[((i : Nat) : Int).toNat]? = _ from hdv) ?_
                k_steps
                refine Halt.out ?_
                refine wpAny_newTuple ?_ (show 2 ≤ sizeLine by decide)
                k_steps
                have hTn : s₃.heap.get? s₃.heap.objs.size = none := get_ge (Nat.le_refl _)
                obtain ⟨oC, _, _, hCo, _⟩ := id hns
                refine Halt.out ⟨⟨_, _, rfl⟩, Low.of (sub_push _ _), ⟨_, hns.at' fun o e => (sub_push s₃.heap _).get e⟩, (s₃.heap.objs.size, tpO [.ref b, .str (rowAt octs (placesOf (octs.map latin)) i).2 t1]) :: tups, ?_, ?_⟩
                · intro p hp
                  rcases List.mem_cons.mp hp with rfl | hp
                  · refine ⟨Heap.get?_push_size _ rfl, fun q => ?_, get_none_sub (fun b o e => (((Sub.of F28.keep).trans' (s28 _)).trans' hx3).get e) hTn, (ne_of_get (hx28.get hLo2) hTn).symm⟩
                    simp only [List.mem_cons, List.not_mem_nil, or_false] at q
                    rcases q with q | q | q
                    · exact ne_of_get hCo hTn q.symm
                    · rw [q] at hTn; rw [hTn] at hDs'; cases hDs'
                    · rw [q] at hTn; rw [hTn] at hIs; cases hIs
                  · exact ⟨(sub_push s₃.heap _).get (ht p hp).1, (ht p hp).2⟩
                · rw [List.range_succ, List.map_append]
                  refine Paired.snoc (rowsN_mono hr fun p hp => ?_) ?_
                  · rcases List.mem_append.mp hp with h | h
                    · exact List.mem_cons_of_mem _ (List.mem_append_left _ h)
                    · exact List.mem_cons_of_mem _ (List.mem_append_right _ h)
                  · exact ⟨_, b, ws, e5, t1, rfl, List.mem_cons_self, List.mem_cons_of_mem _ (List.mem_append_right _ hbin), hwsk⟩
              · rintro h29 h30 tk30 zs e30 ⟨tups, ht, hr⟩ hlen hx30 hD30 hs30
                have hs' : Sub h28 h30 := (s28 _).trans' hs30
                have F30 := Fr.ext F28 hs' (by simp) (by simp)
                have N30 : News h0 L0 h30 ((D2, lsO zs e30) :: (Dr1, lsO rvs e28) :: (230, tabObj pst) :: (tups ++ inner)) := by
                  have gD' : h28.get? D2 = none := get_none_sub (fun b o e => (s28 _).get e) gD
                  have old : ∀ {p : Addr × Obj}, p ∈ _ → h30.get? p.1 = some p.2 ∧ p.1 ≠ L0 ∧ h0.get? p.1 = none := fun {p} hp => ⟨hs'.get (N28 p hp).1, (N28 p hp).2⟩
                  exact nCons ⟨hD30, (ne_of_get hLo2 gD').symm, get_none_sub F28.keep gD'⟩ (nCons (old (p := (Dr1, lsO rvs e28)) (by k_mem)) (nCons (old (p := (230, tabObj pst)) (by k_mem)) (fun p hp => (List.mem_append.mp hp).elim
                    (fun h => ⟨hx30.keep _ _ (fun q => (ht p h).2.1 (List.mem_singleton.mp q ▸ List.mem_cons_self)) (ht p h).1, (ht p h).2.2.2, (ht p h).2.2.1⟩) fun h => old (.tail _ (.tail _ (.tail _ (.tail _ (.tail _ (.tail _ (.tail _ (h)))))))))))
                clear F28 N28 hDr1 ht
                k_steps
                refine Halt.out ?_
                have hzl := Paired.length hr
                rw [List.length_map, List.length_range] at hzl
                refine sorted_rowsG F30 N30 (News.isList N30 (show (D2, listOf (List.toArray zs) e30) ∈ _ by k_mem)) (by rw [List.length_map, List.length_range]; omega) (by ke_room) hr (fun p hp => List.mem_cons_of_mem _ (List.mem_cons_of_mem _ (List.mem_cons_of_mem _ hp))) ?_
                intro Dr2 e31 h31 rvs2 rss2 hrp2 hrw2 hrin2 F31 N31 hDr2
                have hss : rss = rss2 := rows_eq (octs := octs) ((hrp.trans hrows).trans hrp2.symm) hrw1 hrw2
                subst hss
                k_steps
                refine Halt.out ?_
                refine eq_rows (xs := rvs) (ys := rvs2) (n1 := e28) (n2 := e31) ?_ ?_ hrin hrin2 ?_ ?_ ?_ ?_ ?_
                · exact (N31 (Dr1, lsO rvs e28) (by k_mem)).1
                · exact (N31 (Dr2, lsO rvs2 e31) (by k_mem)).1
                · exact fun p hp => (N31 p (.tail _ (.tail _ (.tail _ (.tail _ (List.mem_append_right _ hp)))))).1
                · exact fun p hp => (N31 p (List.mem_cons_of_mem _ (List.mem_cons_of_mem _ (List.mem_cons_of_mem _ (List.mem_cons_of_mem _ hp))))).1
                · intro r hr'
                  obtain ⟨a, ha, rfl⟩ := List.mem_map.mp (hrp2.mem_iff.mp hr')
                  refine hok _ ?_
                  have := List.mem_range.mp ha
                  simp only [rowAt, List.getD_eq_getElem?_getD, List.getElem?_eq_getElem this]
                  exact List.mem_map_of_mem (List.getElem_mem this)
                · ke_room
                refine ⟨?_, ?_⟩
                · k_dflt (refine' goodW_bool ?gF ?gg ?gn ?gp ?go)
                  case gF => exact F31
                  case gg => assumption
                  case gn => exact fun _ => rfl
                  case gp => wrow_post
                  case go => rfl
                · exact ⟨GrownAt.of N31 (show (230, tabObj pst) ∈ _ by k_mem), trivial⟩
  · walk1
    walk1
    k_dflt (refine nLocal FF.ns hm0 ?_ rfl rfl)
    walk1
    by_cases hne : 0 < ns.length
    · rw [decide_eq_true hne, if_pos rfl]
      k_steps
      refine Halt.out ?_
      obtain ⟨osc, hosc, rsc⟩ := lifted
      refine lsl_to (s := ⟨_, _, _, _, _⟩) (vs := vsc) (j := 9) FF y1 ⟨osc, FF.keep _ _ hosc, rsc⟩ rfl (by omega) ?_
      intro D h2 F2 N2 l2
      exact Halt.out ⟨D, vsc.take 9, ns.take 9, h2, _, rfl, rfl, F2, N2, hIs.take 9, by simp; omega, by simp; omega, l2 (L0 + 1, oN) (by simp), l2 (L0 + 1 + 1, oD) (by simp)⟩
    · rw [decide_eq_false hne, if_neg (by simp)]
      k_steps
      refine Halt.out ?_
      (rename Fr _ _ _ m0 => F1); (rename News _ _ _ (_ :: _) => N1)
      rename_i l1 _ _
      refine lsl_to (s := ⟨_, _, _, _, _⟩) (vs := [_, _, _, _, _, _, _, _]) (j := 9) F1 N1 (News.isList N1 (.head _)) rfl (by simp) ?_
      intro D h2 F2 N2 l2
      exact Halt.out ⟨D, _, [5, 2, 3, 0, 6, 1, 4, 5], h2, _, rfl, rfl, F2, fun p hp => N2 p (by
        simp only [List.mem_cons, List.not_mem_nil, or_false] at hp ⊢
        rcases hp with h | h | h | h | h
        · exact .inl h
        · exact .inr (.inr (.inl h))
        · exact .inr (.inr (.inr (.inl h)))
        · exact .inr (.inr (.inr (.inr (.inl h))))
        · exact .inr (.inr (.inr (.inr (.inr h))))), .cons _ _ (.cons _ _ (.cons _ _ (.cons _ _ (.cons _ _ (.cons _ _ (.cons _ _ (.cons _ _ .nil))))))), by decide, by decide, l2 (L0 + 1, oN) (by simp), l2 (L0 + 1 + 1, oD) (by simp)⟩)
end

end

end

end

end

end

end Mine
end
theorem PySem.Challenge.cw_nb0223_01_holds : PySem.Challenge.rw_nb0223_01.Holds :=
  Mine.law1
