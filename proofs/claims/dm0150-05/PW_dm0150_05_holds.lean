import PyProof.Rows.All
import Wide.All
import OpenK.AllK
import Wide.FinOn
import PyProof.StrLawsChain
import PyProof.StrLawsTight
import PyProof.StrWalks
import PyProof.EnumMake
import PyProof.Rows.RuleDivmod
import PyProof.RulesAssignMore
import PyProof.TupleIter
import KE.KDictAnyGet
import KE.LcSums
import PyProof.Rows.StrOrd
import PyProof.Rows.TupDisplay
import PyProof.DictRoads
import PySem.Challenge.RW_dm0150_05
set_option maxRecDepth 100000
set_option Elab.async false
set_option linter.all false
set_option maxHeartbeats 4000000
namespace Mine
open PySem PySem.W PySem.Spec PySem.Calls PyProof.Rows

/-- abstract values: values without tokens -/
inductive AV where
  | none
  | bool (b : Bool)
  | int (i : Int)
  | str (s : Str)
  | bytes (b : Array UInt8)
  | ref (a : Addr)
  | val (v : Value)

def RV : AV → Value → Prop
  | .none, v => v = .none
  | .bool b, v => v = .bool b
  | .int i, v => ∃ t, v = .int i t
  | .str s, v => ∃ t, v = .str s t
  | .bytes b, v => ∃ t, v = .bytes b t
  | .ref a, v => v = .ref a
  | .val x, v => v = x

inductive RVs : List AV → List Value → Prop
  | nil : RVs [] []
  | cons {a v as vs} : RV a v → RVs as vs → RVs (a :: as) (v :: vs)

theorem RVs.length {as vs} (h : RVs as vs) : vs.length = as.length := by
  induction h with
  | nil => rfl
  | cons _ _ ih => simp [ih]
theorem RVs.get {as vs} (h : RVs as vs) {i : Nat} {a : AV} (e : as[i]? = some a) : ∃ v, vs[i]? = some v ∧ RV a v := by
  induction h generalizing i with
  | nil => simp at e
  | @cons a' v' as' vs' h1 _ ih =>
    cases i with
    | zero => simp at e; subst e; exact ⟨_, rfl, h1⟩
    | succ i => simpa using ih (by simpa using e)
theorem RVs.get' {as vs} (h : RVs as vs) {i : Nat} {v : Value} (e : vs[i]? = some v) : ∃ a, as[i]? = some a ∧ RV a v := by
  induction h generalizing i with
  | nil => simp at e
  | @cons a' v' as' vs' h1 _ ih =>
    cases i with
    | zero => simp at e; subst e; exact ⟨_, rfl, h1⟩
    | succ i => simpa using ih (by simpa using e)
theorem RVs.append {as vs bs ws} (h : RVs as vs) (h' : RVs bs ws) : RVs (as ++ bs) (vs ++ ws) := by
  induction h with
  | nil => exact h'
  | cons h1 _ ih => exact .cons h1 ih
theorem RVs.one {a v} (h : RV a v) : RVs [a] [v] := .cons h .nil
theorem RVs.take {as vs} (h : RVs as vs) : ∀ n, RVs (as.take n) (vs.take n) := by
  induction h with
  | nil => intro n; simpa using RVs.nil
  | cons h1 _ ih => intro n; cases n with
    | zero => exact .nil
    | succ n => exact .cons h1 (ih n)
theorem RVs.drop {as vs} (h : RVs as vs) : ∀ n, RVs (as.drop n) (vs.drop n) := by
  induction h with
  | nil => intro n; simpa using RVs.nil
  | cons h1 h2 ih => intro n; cases n with
    | zero => exact .cons h1 h2
    | succ n => exact ih n
theorem RVs.set {as vs} (h : RVs as vs) {a : AV} {v : Value} (hv : RV a v) : ∀ n, RVs (as.set n a) (vs.set n v) := by
  induction h with
  | nil => intro n; simpa using RVs.nil
  | cons h1 h2 ih => intro n; cases n with
    | zero => exact .cons hv h2
    | succ n => exact .cons h1 (ih n)

abbrev Loc := List (Str × AV)

def LocOk (ρ : Loc) (m : Str → Option Value) : Prop := ∀ x v, ρ.lookup x = some v → ∃ v', m x = some v' ∧ RV v v'

/-- abstract objects -/
inductive AO where
  | list (xs : List AV)
  | tuple (xs : List AV)
  | cell (v : Option AV)
  | ns (ρ : Loc)
  | raw (o : Obj)
  | pred (P : Obj → Prop)

def RO : AO → Obj → Prop
  | .list xs, o => ∃ vs n, RVs xs vs ∧ o = { cls := .type "list", data := .seq vs.toArray n }
  | .tuple xs, o => ∃ vs n, RVs xs vs ∧ o = { cls := .type "tuple", data := .seq vs.toArray n }
  | .cell (some a), o => ∃ v, RV a v ∧ o.data = .cell (some v)
  | .cell none, o => ∃ v, o.data = .cell v
  | .ns ρ, o => ∃ m, LCg.NsObj o m ∧ LocOk ρ m
  | .raw o', o => o = o'
  | .pred P, o => P o

abbrev Sto := List (Addr × AO)

/-- the dynamic context of a frame -/
structure Cx where
  prog : Program
  w : World
  A : Around
  A₀ : Around
  base : Heap
  outer : List Env
  h₀ : Heap
  L : Addr
  s₀ : Shared
  K : Frag
  p : Program
  loose : List Str
  mg : Str → Option Value
  mb : Str → Option Value

structure Rel (C : Cx) (ρ : Loc) (σ : Sto) (s : Shared) : Prop where
  shape : ∃ h tk, s = { C.s₀ with heap := h, toks := tk }
  fr : ∃ m, Fr C.h₀ C.L s.heap m ∧ LocOk ρ m
  led : ∀ p ∈ σ, ∃ o, s.heap.get? p.1 = some o ∧ p.1 ≠ C.L ∧ C.h₀.get? p.1 = none ∧ RO p.2 o
  nd : (σ.map (·.1)).Nodup

def AW {α β : Type} (R : β → α → Prop) (C : Cx) (E : Value → Shared → Prop) (t : Sem α) (Q : β → Loc → Sto → Prop) (ρ : Loc) (σ : Sto) : Prop :=
  ∀ s, Rel C ρ σ s → wpAny (model C.prog C.w) C.A t (fun a s' => ∃ b ρ' σ', R b a ∧ Rel C ρ' σ' s' ∧ Q b ρ' σ') E s

/-- abstract flows -/
inductive AF where
  | next | brk | cont
  | ret (v : AV)
def RF : AF → Flow → Prop
  | .next, f => f = .next
  | .brk, f => f = .brk
  | .cont, f => f = .cont
  | .ret a, f => ∃ v, f = .ret v ∧ RV a v

section
variable {C : Cx} {E : Value → Shared → Prop} {ρ : Loc} {σ : Sto} {α β γ δ : Type} {s : Shared}

theorem Rel.toks (h : Rel C ρ σ s) (n : Nat) : Rel C ρ σ { s with toks := n } := by
  obtain ⟨⟨h', tk, e⟩, f, l, nd⟩ := h
  subst e
  exact ⟨⟨h', n, rfl⟩, f, l, nd⟩
theorem Rel.keeps (h : Rel C ρ σ s) {h' : Heap} (hk : ∀ b o, s.heap.get? b = some o → h'.get? b = some o) (n : Nat) : Rel C ρ σ { s with heap := h', toks := n } := by
  obtain ⟨⟨h'', tk, e⟩, ⟨m, F, l⟩, led, nd⟩ := h
  subst e
  refine ⟨⟨h', n, rfl⟩, ⟨m, ⟨F.ns.at' fun o e => hk _ o e, fun b o e => hk b o (F.keep b o e), F.above⟩, l⟩, fun p hp => ?_, nd⟩
  obtain ⟨o, e, r⟩ := led p hp
  exact ⟨o, hk _ _ e, r⟩
theorem Rel.fresh (h : Rel C ρ σ s) : C.h₀.get? s.heap.objs.size = none ∧ s.heap.objs.size ≠ C.L ∧ ∀ p ∈ σ, p.1 ≠ s.heap.objs.size := by
  obtain ⟨_, ⟨m, F, _⟩, led, _⟩ := h
  refine ⟨?_, ?_, fun p hp e => ?_⟩
  · cases hq : C.h₀.get? s.heap.objs.size with
    | none => rfl
    | some o' => exact absurd (Heap.lt_size (F.keep _ _ hq)) (Nat.lt_irrefl _)
  · exact Nat.ne_of_gt F.ns.lt
  · obtain ⟨o, e', _⟩ := led p hp
    have := Heap.lt_size e'
    rw [e] at this
    exact Nat.lt_irrefl _ this
theorem Rel.push (h : Rel C ρ σ s) {o : Obj} {ao : AO} (hr : RO ao o) (hf : o.isFreed = false) (n : Nat) : Rel C ρ ((s.heap.objs.size, ao) :: σ) { s with heap := s.heap.push o, toks := n } := by
  have hfr := h.fresh
  obtain ⟨a, b, led, nd⟩ := (h.keeps (h' := s.heap.push o) (fun b o e => Heap.get?_push_of_some _ e) n)
  refine ⟨a, b, fun p hp => ?_, ?_⟩
  · rcases List.mem_cons.mp hp with rfl | hp
    · exact ⟨o, Heap.get?_push_size _ hf, hfr.2.1, hfr.1, hr⟩
    · exact led p hp
  · rw [List.map_cons, List.nodup_cons]
    refine ⟨fun hm => ?_, nd⟩
    obtain ⟨p, hp, e⟩ := List.mem_map.mp hm
    exact hfr.2.2 p hp e
theorem Rel.sub (h : Rel C ρ σ s) {σ' : Sto} (hs : ∀ p ∈ σ', p ∈ σ) (nd : (σ'.map (·.1)).Nodup) : Rel C ρ σ' s :=
  ⟨h.shape, h.fr, fun p hp => h.led p (hs p hp), nd⟩
theorem Rel.loc (h : Rel C ρ σ s) {ρ' : Loc} (hs : ∀ x v, ρ'.lookup x = some v → ρ.lookup x = some v) : Rel C ρ' σ s := by
  obtain ⟨a, ⟨m, F, l⟩, b, c⟩ := h
  exact ⟨a, ⟨m, F, fun x v e => l x v (hs x v e)⟩, b, c⟩
/-- a heap that differs at one address of the store -/
theorem Rel.upd {pre post : Sto} {a : Addr} {ao ao' : AO} (h : Rel C ρ (pre ++ (a, ao) :: post) s) {h' : Heap} {o' : Obj} (hs : Heap.SameBut a s.heap h') (ho : h'.get? a = some o') (hr : RO ao' o') (n : Nat) :
    Rel C ρ (pre ++ (a, ao') :: post) { s with heap := h', toks := n } := by
  obtain ⟨⟨h'', tk, e⟩, ⟨m, F, l⟩, led, nd⟩ := h
  subst e
  obtain ⟨o, e1, e2, e3, _⟩ := led (a, ao) (List.mem_append_right _ (.head _))
  have nm : ∀ p ∈ pre ++ post, p.1 ≠ a := by
    intro p hp e
    simp only [List.map_append, List.map_cons] at nd
    have nd' := List.nodup_append.mp nd
    rcases List.mem_append.mp hp with hp | hp
    · exact nd'.2.2 p.1 (List.mem_map.mpr ⟨p, hp, rfl⟩) a (.head _) e
    · exact (List.nodup_cons.mp nd'.2.1).1 (e ▸ List.mem_map.mpr ⟨p, hp, rfl⟩)
  refine ⟨⟨h', n, rfl⟩, ⟨m, ⟨F.ns.sameBut hs (Ne.symm e2), fun b ob e => (hs.2 b (fun q => ?_)).trans (F.keep b ob e), F.above⟩, l⟩, fun p hp => ?_, ?_⟩
  · rw [q, e3] at e; cases e
  · rcases List.mem_append.mp hp with hp | hp
    · obtain ⟨o, x, r⟩ := led p (List.mem_append_left _ hp)
      exact ⟨o, (hs.2 _ (nm p (List.mem_append_left _ hp))).trans x, r⟩
    · rcases List.mem_cons.mp hp with rfl | hp
      · exact ⟨o', ho, e2, e3, hr⟩
      · obtain ⟨o, x, r⟩ := led p (List.mem_append_right _ (.tail _ hp))
        exact ⟨o, (hs.2 _ (nm p (List.mem_append_right _ hp))).trans x, r⟩
  · simpa using nd

theorem AW.mono {R : β → α → Prop} {t : Sem α} {Q Q' : β → Loc → Sto → Prop} (h : AW R C E t Q ρ σ) (hq : ∀ b ρ' σ', Q b ρ' σ' → Q' b ρ' σ') : AW R C E t Q' ρ σ :=
  fun s hs => wpAny_mono (h s hs) (fun _ _ ⟨b, ρ', σ', r, x, q⟩ => ⟨b, ρ', σ', r, x, hq _ _ _ q⟩) fun _ _ e => e
theorem AW.bind {R : β → α → Prop} {R' : δ → γ → Prop} {t : Sem α} {f : α → Sem γ} {Q : δ → Loc → Sto → Prop}
    (h : AW R C E t (fun b ρ' σ' => ∀ a, R b a → AW R' C E (f a) Q ρ' σ') ρ σ) : AW R' C E (t >>= f) Q ρ σ :=
  fun s hs => wpAny_bind (wpAny_mono (h s hs) (fun a s' ⟨_, _, _, r, x, q⟩ => q a r s' x) fun _ _ e => e)
theorem AW.pure {R : β → α → Prop} {a : α} {b : β} {Q : β → Loc → Sto → Prop} (r : R b a) (h : Q b ρ σ) : AW R C E (Pure.pure a) Q ρ σ :=
  fun _ hs => wpAny_pure ⟨b, ρ, σ, r, hs, h⟩
theorem AW.sub {R : β → α → Prop} {t : Sem α} {Q : β → Loc → Sto → Prop} {σ' : Sto} (h : AW R C E t Q ρ σ') (hs : ∀ p ∈ σ', p ∈ σ) (nd : ∀ s, Rel C ρ σ s → (σ'.map (·.1)).Nodup) : AW R C E t Q ρ σ :=
  fun s hr => h s (hr.sub hs (nd s hr))
theorem AW.sublist {R : β → α → Prop} {t : Sem α} {Q : β → Loc → Sto → Prop} {σ' : Sto} (h : AW R C E t Q ρ σ') (hs : List.Sublist σ' σ) : AW R C E t Q ρ σ :=
  h.sub (fun _ hp => hs.subset hp) (fun _ hr => (hs.map _).nodup hr.nd)
theorem AW.loc {R : β → α → Prop} {t : Sem α} {Q : β → Loc → Sto → Prop} {ρ' : Loc} (h : AW R C E t Q ρ' σ) (hs : ∀ x v, ρ'.lookup x = some v → ρ.lookup x = some v) : AW R C E t Q ρ σ :=
  fun s hr => h s (hr.loc hs)
end

/-- what holds of a frame: n is the room left for calls -/
structure Cx.Ok (C : Cx) (env : Env) (n : Nat) : Prop where
  B : Below C.A₀ C.base C.outer C.h₀
  X : C.K.In C.h₀
  T : TopRead C.p C.loose C.mg C.mb C.h₀
  hA : C.A.frames = some (env :: C.outer)
  hf : env.frame = some C.L
  hk : env.scope.kind = .function
  hh : C.A.handled = none
  depth : C.A.depth + n < recursionLimit
  units : C.A.units + 10 * n < cLine

/-- what the names of the top need -/
structure Cx.Gl (C : Cx) : Prop where
  X : C.K.In C.h₀
  T : TopRead C.p C.loose C.mg C.mb C.h₀
theorem Cx.Ok.gl {C : Cx} {env : Env} {n : Nat} (h : C.Ok env n) : C.Gl := ⟨h.X, h.T⟩

section names
variable {C : Cx} {E : Value → Shared → Prop} {ρ : Loc} {σ : Sto} {env : Env} {x : Str} {pos : Pos} {v : AV} {Q : AV → Loc → Sto → Prop}
theorem aw_local (hl : ρ.lookup x = some v) (h : Q v ρ σ) (hL : env.locals = C.L := by rfl) (hk : env.scope.kind = .function := by rfl) (hx : env.kindOf x = some .local := by rfl) (hd : (x == ("__debug__" : Str)) = false := by decide) :
    AW RV C E (eval (.Name x pos) env) Q ρ σ := fun s hs => by
  obtain ⟨m, F, l⟩ := hs.fr
  obtain ⟨v', e, r⟩ := l x v hl
  exact wpAny_Name (wpAny_loadName_local hk hx (hL ▸ F.ns) e ⟨v, ρ, σ, r, hs, h⟩) hd
theorem aw_ns {c : Addr} {ρ₂ : Loc} (hm : (c, AO.ns ρ₂) ∈ σ) (hl : ρ₂.lookup x = some v) (h : Q v ρ σ) (hL : env.locals = c := by rfl) (hk : env.scope.kind = .function := by rfl) (hx : env.kindOf x = some .local := by rfl) (hd : (x == ("__debug__" : Str)) = false := by decide) :
    AW RV C E (eval (.Name x pos) env) Q ρ σ := fun s hs => by
  obtain ⟨o, e, _, _, m, hn, l⟩ := hs.led _ hm
  obtain ⟨v', e', r⟩ := l x v hl
  subst hL
  exact wpAny_Name (wpAny_loadName_local hk hx (hn.ns e) e' ⟨v, ρ, σ, r, hs, h⟩) hd
theorem aw_cell {c : Addr} (hc : env.cells.lookup x = some c) (hm : (c, AO.cell (some v)) ∈ σ) (h : Q v ρ σ) (hk : env.scope.kind = .function := by rfl) (hx : env.kindOf x = some .cell := by rfl) (hb : (x == ("__debug__" : Str)) = false := by decide) :
    AW RV C E (eval (.Name x pos) env) Q ρ σ := fun s hs => by
  obtain ⟨o, e, _, _, v', r, hd⟩ := hs.led _ hm
  exact wpAny_Name (wpAny_loadName_cell hk hx hc ⟨o, e, hd⟩ ⟨v, ρ, σ, r, hs, h⟩) hb
theorem aw_free {c : Addr} (hc : env.cells.lookup x = some c) (hm : (c, AO.cell (some v)) ∈ σ) (h : Q v ρ σ) (hk : env.scope.kind = .function := by rfl) (hx : env.kindOf x = some .free := by rfl) (hb : (x == ("__debug__" : Str)) = false := by decide) (hn : (x == ("__classdict__" : Str)) = false := by decide) :
    AW RV C E (eval (.Name x pos) env) Q ρ σ := fun s hs => by
  obtain ⟨o, e, _, _, v', r, hd⟩ := hs.led _ hm
  exact wpAny_Name (wpAny_loadName_free hk hx hc ⟨o, e, hd⟩ ⟨v, ρ, σ, r, hs, h⟩ hn) hb
theorem aw_glob {v' : Value} (G : C.Gl) (e : nsIn C.K mainGlobals x = some (some v')) (r : RV v v') (h : Q v ρ σ) (hg : env.globals = mainGlobals := by rfl) (hk : env.scope.kind = .function := by rfl) (hx : env.kindOf x = some .globalImplicit := by rfl) (hd : (x == ("__debug__" : Str)) = false := by decide) :
    AW RV C E (eval (.Name x pos) env) Q ρ σ := fun s hs => by
  obtain ⟨m, F, _⟩ := hs.fr
  exact Name_function_global hk hx (loadGlobal_global (hg ▸ G.T.g.keeps F.keep) (mg_of G.X G.T.g e) ⟨v, ρ, σ, r, hs, h⟩) hd
theorem aw_builtin {v' : Value} (G : C.Gl) (e : nsIn C.K mainGlobals x = some none) (hv : bootBuiltins x = some v') (r : RV v v') (h : Q v ρ σ) (hn : x ≠ "__name__" := by decide) (hg : env.globals = mainGlobals := by rfl) (hbn : env.builtins = builtinsNs := by rfl) (hk : env.scope.kind = .function := by rfl) (hx : env.kindOf x = some .globalImplicit := by rfl) (hd : (x == ("__debug__" : Str)) = false := by decide) :
    AW RV C E (eval (.Name x pos) env) Q ρ σ := fun s hs => by
  obtain ⟨m, F, _⟩ := hs.fr
  exact Name_function_global hk hx (loadGlobal_builtin (hg ▸ G.T.g.keeps F.keep) (mg_none_of G.X G.T.g e) (hbn ▸ G.T.b.keeps F.keep) ((G.T.builtins x hn).trans hv) ⟨v, ρ, σ, r, hs, h⟩) hd
end names
end Mine
namespace Mine
open PySem PySem.W PySem.Spec PySem.Calls PyProof.Rows

/-- two values related, then a tree over them -/
def A2 (C : Cx) (E : Value → Shared → Prop) (t : Value → Value → Sem Value) (a b : AV) (Q : AV → Loc → Sto → Prop) (ρ : Loc) (σ : Sto) : Prop :=
  ∀ va vb, RV a va → RV b vb → AW RV C E (t va vb) Q ρ σ
def A1 (C : Cx) (E : Value → Shared → Prop) (t : Value → Sem Value) (a : AV) (Q : AV → Loc → Sto → Prop) (ρ : Loc) (σ : Sto) : Prop :=
  ∀ va, RV a va → AW RV C E (t va) Q ρ σ
def ATr (C : Cx) (E : Value → Shared → Prop) (a : AV) (Q : Bool → Loc → Sto → Prop) (ρ : Loc) (σ : Sto) : Prop :=
  ∀ va, RV a va → AW (Eq (α := Bool)) C E (truthy va) Q ρ σ
def ACall (C : Cx) (E : Value → Shared → Prop) (f : Value) (as : List AV) (Q : AV → Loc → Sto → Prop) (ρ : Loc) (σ : Sto) : Prop :=
  ∀ vs, RVs as vs → AW RV C E (call f vs []) Q ρ σ
abbrev Op2 (C : Cx) (E : Value → Shared → Prop) (op : Operator) := A2 C E (binaryOp op)
abbrev Cmp2 (C : Cx) (E : Value → Shared → Prop) (op : CmpOp) := A2 C E (compareOp op)

section
variable {C : Cx} {E : Value → Shared → Prop} {ρ : Loc} {σ : Sto} {env : Env} {pos : Pos} {Q : AV → Loc → Sto → Prop} {QB : Bool → Loc → Sto → Prop} {QF : AF → Loc → Sto → Prop}

theorem AW.lift1 {α β : Type} {R : β → α → Prop} {t : Sem α} {Q1 : β → Loc → Sto → Prop} {P : α → Shared → Prop} {s : Shared} (h : AW R C E t Q1 ρ σ) (hs : Rel C ρ σ s)
    (k : ∀ a b ρ' σ' s', R b a → Rel C ρ' σ' s' → Q1 b ρ' σ' → P a s') : wpAny (model C.prog C.w) C.A t P E s :=
  wpAny_mono (h s hs) (fun a s' ⟨b, ρ', σ', r, x, q⟩ => k a b ρ' σ' s' r x q) fun _ _ e => e

-- constants
theorem aw_int {i : Int} {k : Nat} (h : Q (.int i) ρ σ) : AW RV C E (eval (.Constant (.int i) k pos) env) Q ρ σ :=
  fun _ hs => wpAny_Constant_int ⟨.int i, _, _, ⟨_, rfl⟩, hs.toks _, h⟩
theorem aw_str {x : Str} {k : Nat} (h : Q (.str x) ρ σ) : AW RV C E (eval (.Constant (.str x) k pos) env) Q ρ σ :=
  fun _ hs => Constant_str ⟨.str x, _, _, ⟨_, rfl⟩, hs.toks _, h⟩
theorem aw_bool {x : Bool} {k : Nat} (h : Q (.bool x) ρ σ) : AW RV C E (eval (.Constant (.bool x) k pos) env) Q ρ σ :=
  fun _ hs => wpAny_Constant_bool ⟨.bool x, _, _, rfl, hs, h⟩
theorem aw_none {k : Nat} (h : Q .none ρ σ) : AW RV C E (eval (.Constant .none k pos) env) Q ρ σ :=
  fun _ hs => wpAny_Constant_none ⟨.none, _, _, rfl, hs, h⟩

-- operators
theorem aw_BinOp {l r : Expr} {op : Operator} (h : AW RV C E (eval l env) (fun a ρ₁ σ₁ => AW RV C E (eval r env) (fun b ρ₂ σ₂ => Op2 C E op a b Q ρ₂ σ₂) ρ₁ σ₁) ρ σ) :
    AW RV C E (eval (.BinOp l op r pos) env) Q ρ σ :=
  fun _ hs => wpAny_BinOp (h.lift1 hs fun va _ _ _ _ ra hs₁ h₁ => h₁.lift1 hs₁ fun vb _ _ _ _ rb hs₂ h₂ => h₂ va vb ra rb _ hs₂)
theorem aw_UnaryOp {x : Expr} {op : UnaryOp} (h : AW RV C E (eval x env) (fun a ρ₁ σ₁ => A1 C E (unaryOp op) a Q ρ₁ σ₁) ρ σ) : AW RV C E (eval (.UnaryOp op x pos) env) Q ρ σ :=
  fun _ hs => UnaryOp_ (h.lift1 hs fun va _ _ _ _ ra hs₁ h₁ => h₁ va ra _ hs₁)
theorem aw_Compare {l r : Expr} {op : CmpOp} (h : AW RV C E (eval l env) (fun a ρ₁ σ₁ => AW RV C E (eval r env) (fun b ρ₂ σ₂ => Cmp2 C E op a b Q ρ₂ σ₂) ρ₁ σ₁) ρ σ) (hm : behindInMarks op r = false := by rfl) :
    AW RV C E (eval (.Compare l [op] [r] pos) env) Q ρ σ :=
  fun _ hs => wpAny_Compare1 (h.lift1 hs fun va _ _ _ _ ra hs₁ h₁ => h₁.lift1 hs₁ fun vb _ _ _ _ rb hs₂ h₂ => h₂ va vb ra rb _ hs₂) hm
theorem aw_IfExp {t b o : Expr} (h : AW (Eq (α := Bool)) C E (isTrue t env (eval t env)) (fun c ρ₁ σ₁ => if c = true then AW RV C E (eval b env) Q ρ₁ σ₁ else AW RV C E (eval o env) Q ρ₁ σ₁) ρ σ) :
    AW RV C E (eval (.IfExp t b o pos) env) Q ρ σ :=
  fun _ hs => IfExp_ (h.lift1 hs fun c c' _ _ _ ra hs₁ h₁ => by
    subst ra
    split at h₁
    · rename_i hc; rw [if_pos hc]; exact h₁ _ hs₁
    · rename_i hc; rw [if_neg hc]; exact h₁ _ hs₁)
theorem aw_and {e₁ e₂ : Expr} {rest : List Expr} (h : AW RV C E (eval e₁ env) (fun v ρ₁ σ₁ => ATr C E v (fun c ρ₂ σ₂ => if c = true then AW RV C E (eval (.BoolOp .And (e₂ :: rest) pos) env) Q ρ₂ σ₂ else Q v ρ₂ σ₂) ρ₁ σ₁) ρ σ) :
    AW RV C E (eval (.BoolOp .And (e₁ :: e₂ :: rest) pos) env) Q ρ σ :=
  fun _ hs => BoolOp_and (h.lift1 hs fun va a _ _ _ ra hs₁ h₁ => (h₁ va ra).lift1 hs₁ fun c c' _ _ _ rc hs₂ h₂ => by
    subst rc
    split at h₂
    · rename_i hc; rw [if_pos hc]; exact h₂ _ hs₂
    · rename_i hc; rw [if_neg hc]; exact ⟨a, _, _, ra, hs₂, h₂⟩)
theorem aw_or {e₁ e₂ : Expr} {rest : List Expr} (h : AW RV C E (eval e₁ env) (fun v ρ₁ σ₁ => ATr C E v (fun c ρ₂ σ₂ => if c = true then Q v ρ₂ σ₂ else AW RV C E (eval (.BoolOp .Or (e₂ :: rest) pos) env) Q ρ₂ σ₂) ρ₁ σ₁) ρ σ) :
    AW RV C E (eval (.BoolOp .Or (e₁ :: e₂ :: rest) pos) env) Q ρ σ :=
  fun _ hs => BoolOp_or (h.lift1 hs fun va a _ _ _ ra hs₁ h₁ => (h₁ va ra).lift1 hs₁ fun c c' _ _ _ rc hs₂ h₂ => by
    subst rc
    split at h₂
    · rename_i hc; rw [if_pos hc]; exact ⟨a, _, _, ra, hs₂, h₂⟩
    · rename_i hc; rw [if_neg hc]; exact h₂ _ hs₂)
theorem aw_bool1 {e : Expr} {op : BoolOp} (h : AW RV C E (eval e env) Q ρ σ) : AW RV C E (eval (.BoolOp op [e] pos) env) Q ρ σ := fun s hs => BoolOp_one (h s hs)

-- truth
theorem it_plain {e : Expr} {whole : Sem Value} (h : AW RV C E whole (fun v ρ₁ σ₁ => ATr C E v QB ρ₁ σ₁) ρ σ)
    (hp : isTrue e env whole = (do let v ← whole; standAt e.pos; holding [v] (truthy v)) := by rfl) : AW (Eq (α := Bool)) C E (isTrue e env whole) QB ρ σ :=
  fun _ hs => isTrue_plain (h.lift1 hs fun va _ _ _ _ ra hs₁ h₁ => (h₁ va ra) _ hs₁) hp
theorem it_not {x : Expr} {whole : Sem Value} (h : AW (Eq (α := Bool)) C E (isTrue x env (eval x env)) (fun c ρ₁ σ₁ => QB (!c) ρ₁ σ₁) ρ σ) : AW (Eq (α := Bool)) C E (isTrue (.UnaryOp .Not x pos) env whole) QB ρ σ :=
  fun _ hs => isTrue_not (h.lift1 hs fun c c' _ _ _ ra hs₁ h₁ => ⟨!c', _, _, by rw [ra], hs₁, h₁⟩)
theorem it_cmp {l r : Expr} {op : CmpOp} {whole : Sem Value} (h : AW RV C E (eval l env) (fun a ρ₁ σ₁ => AW RV C E (eval r env) (fun b ρ₂ σ₂ => Cmp2 C E op a b (fun v ρ₃ σ₃ => ATr C E v QB ρ₃ σ₃) ρ₂ σ₂) ρ₁ σ₁) ρ σ) (hm : behindInMarks op r = false := by rfl) :
    AW (Eq (α := Bool)) C E (isTrue (.Compare l [op] [r] pos) env whole) QB ρ σ :=
  fun _ hs => wpAny_isTrue_Compare1 (h.lift1 hs fun va _ _ _ _ ra hs₁ h₁ => h₁.lift1 hs₁ fun vb _ _ _ _ rb hs₂ h₂ => (h₂ va vb ra rb).lift1 hs₂ fun vc _ _ _ _ rc hs₃ h₃ => h₃ vc rc _ hs₃) hm
theorem it_bool {op : BoolOp} {es : List Expr} {whole : Sem Value} (h : AW (Eq (α := Bool)) C E (allTrue op es env) QB ρ σ) : AW (Eq (α := Bool)) C E (isTrue (.BoolOp op es pos) env whole) QB ρ σ := h
theorem at_nil {op : BoolOp} (h : QB (op == .And) ρ σ) : AW (Eq (α := Bool)) C E (allTrue op [] env) QB ρ σ := AW.pure rfl h
theorem at_and {x : Expr} {rest : List Expr} (h : AW (Eq (α := Bool)) C E (isTrue x env (eval x env)) (fun c ρ₁ σ₁ => if c = true then AW (Eq (α := Bool)) C E (allTrue .And rest env) QB ρ₁ σ₁ else QB false ρ₁ σ₁) ρ σ) :
    AW (Eq (α := Bool)) C E (allTrue .And (x :: rest) env) QB ρ σ := by
  refine AW.bind (h.mono fun c ρ₁ σ₁ h₁ a e => ?_)
  subst e
  cases c with
  | true => exact h₁
  | false => exact AW.pure rfl h₁
theorem at_or {x : Expr} {rest : List Expr} (h : AW (Eq (α := Bool)) C E (isTrue x env (eval x env)) (fun c ρ₁ σ₁ => if c = true then QB true ρ₁ σ₁ else AW (Eq (α := Bool)) C E (allTrue .Or rest env) QB ρ₁ σ₁) ρ σ) :
    AW (Eq (α := Bool)) C E (allTrue .Or (x :: rest) env) QB ρ σ := by
  refine AW.bind (h.mono fun c ρ₁ σ₁ h₁ a e => ?_)
  subst e
  cases c with
  | true => exact AW.pure rfl h₁
  | false => exact h₁
theorem tr_bool {b : Bool} (h : QB b ρ σ) : ATr C E (.bool b) QB ρ σ := by
  rintro _ rfl
  intro s hs
  exact wpAny_truthy_bool ⟨b, ρ, σ, rfl, hs, h⟩

-- statements
theorem ex_nil (h : QF .next ρ σ) : AW RF C E (execs [] env) QF ρ σ := fun _ hs => wpAny_execs_nil ⟨.next, _, _, rfl, hs, h⟩
theorem ex_cons {st : Stmt} {rest : List Stmt} (h : AW RF C E (exec st env) (fun f ρ₁ σ₁ => match f with | .next => AW RF C E (execs rest env) QF ρ₁ σ₁ | f => QF f ρ₁ σ₁) ρ σ) : AW RF C E (execs (st :: rest) env) QF ρ σ :=
  fun _ hs => wpAny_execs_cons (h.lift1 hs fun f f' _ _ _ rf hs₁ h₁ => by
    cases f' with
    | next => cases rf; exact h₁ _ hs₁
    | brk => cases rf; exact ⟨.brk, _, _, rfl, hs₁, h₁⟩
    | cont => cases rf; exact ⟨.cont, _, _, rfl, hs₁, h₁⟩
    | ret a => obtain ⟨v, rfl, rv⟩ := rf; exact ⟨.ret a, _, _, ⟨v, rfl, rv⟩, hs₁, h₁⟩)
theorem ex_return {e : Expr} (h : AW RV C E (eval e env) (fun v => QF (.ret v)) ρ σ) : AW RF C E (exec (.Return (some e) pos) env) QF ρ σ :=
  fun _ hs => wpAny_Return_some (h.lift1 hs fun v a _ _ _ rv hs₁ h₁ => ⟨.ret a, _, _, ⟨v, rfl, rv⟩, hs₁, h₁⟩)
theorem ex_if {t : Expr} {b o : List Stmt} (h : AW (Eq (α := Bool)) C E (isTrue t env (eval t env)) (fun c ρ₁ σ₁ => if c = true then AW RF C E (execs b env) QF ρ₁ σ₁ else AW RF C E (execs o env) QF ρ₁ σ₁) ρ σ) :
    AW RF C E (exec (.If t b o pos) env) QF ρ σ :=
  fun _ hs => wpAny_If (h.lift1 hs fun c c' _ _ _ ra hs₁ h₁ => by
    subst ra
    split at h₁
    · rename_i hc; rw [if_pos hc]; exact h₁ _ hs₁
    · rename_i hc; rw [if_neg hc]; exact h₁ _ hs₁)

/-- storing a name -/
def ASt (C : Cx) (E : Value → Shared → Prop) (env : Env) (x : Str) (a : AV) (Q : Loc → Sto → Prop) (ρ : Loc) (σ : Sto) : Prop :=
  ∀ v, RV a v → AW (Eq (α := Unit)) C E (storeName env x v) (fun _ => Q) ρ σ
def rset (ρ : Loc) (x : Str) (a : AV) : Loc := match ρ with
  | [] => [(x, a)]
  | (y, b) :: r => if x = y then (x, a) :: r else (y, b) :: rset r x a
theorem rset_lookup (ρ : Loc) (x : Str) (a : AV) (y : Str) : (rset ρ x a).lookup y = if y = x then some a else ρ.lookup y := by
  induction ρ with
  | nil =>
    by_cases h : y = x
    · simp [rset, List.lookup_cons, h]
    · simp [rset, List.lookup_cons, h, beq_eq_false_iff_ne.mpr h]
  | cons p r ih =>
    obtain ⟨z, b⟩ := p
    unfold rset
    by_cases hxz : x = z
    · subst hxz
      rw [if_pos rfl]
      by_cases h : y = x
      · simp [h]
      · simp [List.lookup_cons, h, beq_eq_false_iff_ne.mpr h]
    · rw [if_neg hxz]
      by_cases h : y = z
      · subst h
        have : y ≠ x := Ne.symm hxz
        simp [List.lookup_cons, this]
      · simp only [List.lookup_cons, beq_eq_false_iff_ne.mpr h]
        exact ih
theorem st_local {x : Str} {a : AV} {Q : Loc → Sto → Prop} (h : Q (rset ρ x a) σ) (hL : env.locals = C.L := by rfl) (hk : env.scope.kind = .function := by rfl) (hx : env.kindOf x = some .local := by rfl) : ASt C E env x a Q ρ σ := by
  intro v rv s hs
  obtain ⟨m, F, l⟩ := hs.fr
  refine wpAny_storeName_local hx (hL ▸ F.ns) (fun h' hn hsb => ⟨(), rset ρ x a, σ, rfl, ?_, h⟩) (by rw [hk]; rfl)
  rw [hL] at hn hsb
  obtain ⟨⟨h'', tk, e⟩, _, led, nd⟩ := hs
  subst e
  refine ⟨⟨h', _, rfl⟩, ⟨_, F.set hn hsb, fun y w e => ?_⟩, fun p hp => ?_, nd⟩
  · rw [rset_lookup] at e
    by_cases hy : y = x
    · subst hy; simp only [if_true] at e ⊢; cases e; exact ⟨v, rfl, rv⟩
    · rw [if_neg hy] at e ⊢; exact l y w e
  · obtain ⟨o, e1, e2, r⟩ := led p hp
    exact ⟨o, (hsb.2 _ e2).trans e1, e2, r⟩
theorem st_ns {x : Str} {a : AV} {c : Addr} {ρ₂ : Loc} {pre post : Sto} {Q : Loc → Sto → Prop} (hσ : σ = pre ++ (c, .ns ρ₂) :: post) (h : Q ρ (pre ++ (c, .ns (rset ρ₂ x a)) :: post)) (hL : env.locals = c := by rfl) (hk : env.scope.kind = .function := by rfl) (hx : env.kindOf x = some .local := by rfl) : ASt C E env x a Q ρ σ := by
  intro v rv s hs
  subst hσ
  obtain ⟨o, e, n1, n2, m, hn, l⟩ := hs.led (c, .ns ρ₂) (List.mem_append_right _ (.head _))
  subst hL
  refine wpAny_storeName_local hx (hn.ns e) (fun h' hn' hsb => ?_) (by rw [hk]; rfl)
  obtain ⟨o', e', hn''⟩ := LCg.ns_obj hn'
  refine ⟨(), ρ, _, rfl, hs.upd hsb e' (ao' := .ns (rset ρ₂ x a)) ⟨_, hn'', fun y w e => ?_⟩ _, h⟩
  rw [rset_lookup] at e
  by_cases hy : y = x
  · subst hy; simp only [if_true] at e ⊢; cases e; exact ⟨v, rfl, rv⟩
  · rw [if_neg hy] at e ⊢; exact l y w e
theorem st_cell {x : Str} {a : AV} {c : Addr} {v₀ : Option AV} {pre post : Sto} {Q : Loc → Sto → Prop} (hσ : σ = pre ++ (c, .cell v₀) :: post) (hc : env.cells.lookup x = some c) (h : Q ρ (pre ++ (c, .cell (some a)) :: post)) (hk : env.scope.kind = .function := by rfl) (hx : env.kindOf x = some .cell := by rfl) : ASt C E env x a Q ρ σ := by
  intro v rv s hs
  subst hσ
  obtain ⟨o, e, n1, n2, r⟩ := hs.led (c, .cell v₀) (List.mem_append_right _ (.head _))
  have hcell : ∃ w, s.heap.IsCell c w := by
    cases v₀ with
    | none => obtain ⟨w, hw⟩ := r; exact ⟨w, o, e, hw⟩
    | some a₀ => obtain ⟨w, _, hw⟩ := r; exact ⟨some w, o, e, hw⟩
  obtain ⟨w, hw⟩ := hcell
  refine wpAny_storeName_cell hk hx hc hw fun h' hv hsb => ?_
  obtain ⟨o', e', hd⟩ := hv
  exact ⟨(), ρ, _, rfl, hs.upd hsb e' (ao' := .cell (some a)) ⟨v, rv, hd⟩ s.toks, h⟩
theorem ex_assign {x : Str} {p' : Pos} {e : Expr} (h : AW RV C E (eval e env) (fun a ρ₁ σ₁ => ASt C E env x a (QF .next) ρ₁ σ₁) ρ σ) (hsw : swapsWith e (some (.Name x p')) pos.line env = pure false := by rfl) :
    AW RF C E (exec (.Assign [.Name x p'] e pos) env) QF ρ σ :=
  fun _ hs => wpAny_Assign_Name (h.lift1 hs fun v _ _ _ _ rv hs₁ h₁ => (h₁ v rv).lift1 hs₁ fun _ _ _ _ _ _ hs₂ h₂ => ⟨.next, _, _, rfl, hs₂, h₂⟩) hsw

-- calls
def Kp (C : Cx) (f : Value) (σ : Sto) : Prop := ∀ ρ s, Rel C ρ σ s → ∃ k, (k = Keeper.frame ∨ k = Keeper.machine ∨ k = Keeper.boundFrame) ∧ Looks (model C.prog C.w) s.heap (keeperOf f) k
theorem kp_builtin {id : String} : Kp C (.builtin id) σ := fun _ _ _ => ⟨.machine, .inr (.inl rfl), .now⟩
theorem kp_type {T : String} : Kp C (.type T) σ := fun _ _ _ => ⟨.machine, .inr (.inl rfl), .now⟩
theorem kp_K (G : C.Gl) {f : Value} (hk : keepIn C.K f = true) : Kp C f σ := fun _ _ hs => by
  obtain ⟨m, F, _⟩ := hs.fr
  exact keeps_K hk _ (G.X.keeps F.keep)
theorem sp_nil {p : Pos} {QL : List AV → Loc → Sto → Prop} (h : QL [] ρ σ) : AW RVs C E (spliced (backTo p (starEach [] env))) QL ρ σ := fun _ hs => spliced_none ⟨_, _, _, .nil, hs, h⟩
theorem sp_cons {p : Pos} {e : Expr} {rest : List Expr} {QL : List AV → Loc → Sto → Prop} (h : AW RV C E (eval e env) (fun a ρ₁ σ₁ => AW RVs C E (spliced (backTo p (starEach rest env))) (fun as ρ₂ σ₂ => QL (a :: as) ρ₂ σ₂) ρ₁ σ₁) ρ σ)
    (he : starEach (e :: rest) env = (false, eval e env) :: starEach rest env := by rfl) : AW RVs C E (spliced (backTo p (starEach (e :: rest) env))) QL ρ σ :=
  fun _ hs => spliced_more (h.lift1 hs fun v _ _ _ _ rv hs₁ h₁ => h₁.lift1 hs₁ fun vs _ _ _ _ rvs hs₂ h₂ => ⟨_, _, _, .cons rv rvs, hs₂, h₂⟩) he
theorem cw_more {p : Pos} {f : Value} {first : List Value} {fa : List AV} {e : Expr} {rest : List Expr} (rf : RVs fa first) (h : AW RVs C E (spliced (backTo p (starEach (e :: rest) env))) (fun as ρ₁ σ₁ => Kp C f σ₁ ∧ ACall C E f (fa ++ as) Q ρ₁ σ₁) ρ σ)
    (he : starEach (e :: rest) env = (false, eval e env) :: starEach rest env := by rfl) (hplain : (backTo p (starEach rest env)).any (·.1) = false := by rfl) :
    AW RV C E (callWith p f first (backTo p (starEach (e :: rest) env)) []) Q ρ σ := by
  intro s hs
  have h' := h
  rw [he] at h' ⊢
  refine callWith_of (P := fun hp => ∃ k, (k = Keeper.frame ∨ k = Keeper.machine ∨ k = Keeper.boundFrame) ∧ Looks (model C.prog C.w) hp (keeperOf f) k) (by show ((false || (backTo p (starEach rest env)).any (·.1)) || false) = false; rw [hplain]; rfl) (fun _ x => x) (evalArgs_plain ?_)
  exact h'.lift1 hs fun vs _ _ _ _ rvs hs₁ h₁ => ⟨h₁.1 _ _ hs₁, h₁.2 _ (rf.append rvs) _ hs₁⟩
theorem cw_none {p : Pos} {f : Value} {first : List Value} {fa : List AV} (rf : RVs fa first) (hk : Kp C f σ) (h : ACall C E f fa Q ρ σ) :
    AW RV C E (callWith p f first (backTo p (starEach [] env)) []) Q ρ σ := by
  intro s hs
  refine callWith_of (P := fun hp => ∃ k, (k = Keeper.frame ∨ k = Keeper.machine ∨ k = Keeper.boundFrame) ∧ Looks (model C.prog C.w) hp (keeperOf f) k) rfl (fun _ x => x) (evalArgs_nil3 ⟨hk _ _ hs, ?_⟩)
  rw [List.append_nil]
  exact h _ rf _ hs
theorem aw_Call {func : Expr} {args : List Expr} (h : AW RV C E (eval func env) (fun f ρ₁ σ₁ => ∀ fv, RV f fv → AW RV C E (callWith pos fv [] (backTo pos (starEach args env)) []) Q ρ₁ σ₁) ρ σ)
    (he : eval (.Call func args [] pos) env = (do callWith pos (← eval func env) [] (backTo pos (starEach args env)) (backToKw pos (keywordEach [] env))) := by rfl) :
    AW RV C E (eval (.Call func args [] pos) env) Q ρ σ :=
  fun _ hs => Call_ (h.lift1 hs fun v _ _ _ _ rv hs₁ h₁ => h₁ v rv _ hs₁) he
/-- a method's function and its first arguments -/
def AMeth (C : Cx) (E : Value → Shared → Prop) (a : AV) (name : Str) (pl : Sem Bool) (P : Value → List AV → Loc → Sto → Prop) (ρ : Loc) (σ : Sto) : Prop :=
  ∀ v, RV a v → ∀ s, Rel C ρ σ s → wpAny (model C.prog C.w) C.A (getMethod v name pl) (fun fx s' => ∃ fa ρ' σ', RVs fa fx.2 ∧ Rel C ρ' σ' s' ∧ P fx.1 fa ρ' σ') E s
theorem aw_Method {o : Expr} {name : Str} {apos : Pos} {args : List Expr} {pl : Sem Bool} (h : AW RV C E (eval o env) (fun a ρ₁ σ₁ => AMeth C E a name pl (fun f fa ρ₂ σ₂ => ∀ first, RVs fa first → AW RV C E (callWith pos f first (backTo pos (starEach args env)) []) Q ρ₂ σ₂) ρ₁ σ₁) ρ σ)
    (he : eval (.Call (.Attribute o name apos) args [] pos) env = (do
          let ov ← eval o env
          standAt (Pos.atName apos)
          let (f, first) ← holding [ov] (getMethod ov name pl)
          callWith pos f first (backTo pos (starEach args env)) []) := by rfl) :
    AW RV C E (eval (.Call (.Attribute o name apos) args [] pos) env) Q ρ σ :=
  fun _ hs => MethodCall_ (pl := pl) (h.lift1 hs fun v _ _ _ _ rv hs₁ h₁ => wpAny_mono (h₁ v rv _ hs₁) (fun fx s' ⟨fa, ρ', σ', rf, hs₂, h₂⟩ => h₂ _ rf _ hs₂) fun _ _ e => e) he
-- items
theorem aw_Subscript {value slice : Expr} (h : AW RV C E (eval value env) (fun o ρ₁ σ₁ => AW RV C E (eval slice env) (fun i ρ₂ σ₂ => A2 C E (subscriptTail value slice) o i Q ρ₂ σ₂) ρ₁ σ₁) ρ σ) :
    AW RV C E (eval (.Subscript value slice pos) env) Q ρ σ :=
  fun _ hs => Subscript_ (h.lift1 hs fun va _ _ _ _ ra hs₁ h₁ => h₁.lift1 hs₁ fun vb _ _ _ _ rb hs₂ h₂ => h₂ va vb ra rb _ hs₂)
theorem ep_none (h : Q .none ρ σ) : AW RV C E (evalPart none env) Q ρ σ := AW.pure (R := RV) (a := Value.none) (b := .none) rfl h
theorem ep_some {e : Expr} (h : AW RV C E (eval e env) Q ρ σ) : AW RV C E (evalPart (some e) env) Q ρ σ := h
theorem aw_Slice {l u st : Option Expr} (h : AW RV C E (evalPart l env) (fun a ρ₁ σ₁ => AW RV C E (evalPart u env) (fun b ρ₂ σ₂ => AW RV C E (evalPart st env) (fun c ρ₃ σ₃ => ∀ r va vb vc, RV a va → RV b vb → RV c vc → Q (.ref r) ρ₃ ((r, .raw { cls := .type "slice", data := .fields #[va, vb, vc] }) :: σ₃)) ρ₂ σ₂) ρ₁ σ₁) ρ σ) :
    AW RV C E (eval (.Slice l u st pos) env) Q ρ σ :=
  fun _ hs => wpAny_Slice (h.lift1 hs fun va _ _ _ _ ra hs₁ h₁ => h₁.lift1 hs₁ fun vb _ _ _ _ rb hs₂ h₂ => h₂.lift1 hs₂ fun vc _ _ _ _ rc hs₃ h₃ =>
    ⟨.ref _, _, _, rfl, hs₃.push (ao := .raw _) rfl rfl _, h₃ _ va vb vc ra rb rc⟩)
theorem aw_List {es : List Expr} (h : AW RVs C E (spliced (backTo pos (starEach es env))) (fun as ρ₁ σ₁ => as.length ≤ sizeLine ∧ ∀ r, Q (.ref r) ρ₁ ((r, .list as) :: σ₁)) ρ σ) : AW RV C E (eval (.List es pos) env) Q ρ σ :=
  fun _ hs => List_ (h.lift1 hs fun vs as _ _ _ rvs hs₁ h₁ => by
    refine wpAny_newObj_type ?_ (by show vs.toArray.size ≤ sizeLine; rw [List.size_toArray, rvs.length]; exact h₁.1)
    exact ⟨.ref _, _, _, rfl, hs₁.push (ao := .list as) ⟨vs, 0, rvs, rfl⟩ rfl _, h₁.2 _⟩)
theorem aw_Tuple {es : List Expr} {k : Nat} (h : AW RVs C E (spliced (backTo pos (starEach es env))) (fun as ρ₁ σ₁ => as.length ≤ sizeLine ∧ ∀ r, Q (.ref r) ρ₁ ((r, .tuple as) :: σ₁)) ρ σ) : AW RV C E (eval (.Tuple es k pos) env) Q ρ σ :=
  fun _ hs => Tuple_ (h.lift1 hs fun vs as _ _ _ rvs hs₁ h₁ => by
    refine wpAny_newObj_type ?_ (by show vs.toArray.size ≤ sizeLine; rw [List.size_toArray, rvs.length]; exact h₁.1)
    exact ⟨.ref _, _, _, rfl, hs₁.push (ao := .tuple as) ⟨vs, 0, rvs, rfl⟩ rfl _, h₁.2 _⟩)
end
end Mine
namespace Mine
open PySem PySem.W PySem.Spec PySem.Calls PyProof.Rows

theorem Rel.appL {C : Cx} {ρ : Loc} {pre post : Sto} {a : Addr} {ao : AO} {s : Shared} (h : Rel C ρ (pre ++ (a, ao) :: post) s) : Rel C ρ (pre ++ post) s := by
  refine h.sub (fun p hp => ?_) ?_
  · rcases List.mem_append.mp hp with hp | hp
    · exact List.mem_append_left _ hp
    · exact List.mem_append_right _ (.tail _ hp)
  · have := h.nd
    rw [List.map_append, List.map_cons] at this
    rw [List.map_append]
    exact this.sublist (List.Sublist.append (List.Sublist.refl _) (List.sublist_cons_self _ _))
/-- a heap that keeps all but one address -/
theorem Rel.extBut {C : Cx} {ρ : Loc} {pre post : Sto} {a : Addr} {ao : AO} {s : Shared} (h : Rel C ρ (pre ++ (a, ao) :: post) s) {h' : Heap} (he : Heap.ExtBut a s.heap h') (n : Nat) : Rel C ρ (pre ++ post) { s with heap := h', toks := n } := by
  have h1 := h.appL
  obtain ⟨o, e1, e2, e3, _⟩ := h.led (a, ao) (List.mem_append_right _ (.head _))
  have nm : ∀ p ∈ pre ++ post, p.1 ≠ a := by
    intro p hp e
    have nd := h.nd
    simp only [List.map_append, List.map_cons] at nd
    have nd' := List.nodup_append.mp nd
    rcases List.mem_append.mp hp with hp | hp
    · exact nd'.2.2 p.1 (List.mem_map.mpr ⟨p, hp, rfl⟩) a (.head _) e
    · exact (List.nodup_cons.mp nd'.2.1).1 (e ▸ List.mem_map.mpr ⟨p, hp, rfl⟩)
  obtain ⟨⟨h'', tk, e⟩, ⟨m, F, l⟩, led, nd⟩ := h1
  subst e
  refine ⟨⟨h', n, rfl⟩, ⟨m, ⟨F.ns.at' fun o e => he _ o (Ne.symm e2) e, fun b ob e => he b ob (fun q => ?_) (F.keep b ob e), F.above⟩, l⟩, fun p hp => ?_, nd⟩
  · rw [q, e3] at e; cases e
  · obtain ⟨o, x, r⟩ := led p hp
    exact ⟨o, he _ _ (nm p hp) x, r⟩

/-- the store less one entry -/
def Pick (e : Addr × AO) (σ σ' : Sto) : Prop := σ.Perm (e :: σ')
theorem Pick.head {e : Addr × AO} {σ : Sto} : Pick e (e :: σ) σ := .refl _
theorem Pick.tail {e x : Addr × AO} {σ σ' : Sto} (h : Pick e σ σ') : Pick e (x :: σ) (x :: σ') := (h.cons x).trans (.swap _ _ _)
theorem Pick.mem {e : Addr × AO} {σ σ' : Sto} (h : Pick e σ σ') : e ∈ σ := h.mem_iff.mpr (.head _)
/-- a part of the store -/
def SubS (σ₁ σ₂ : Sto) : Prop := ∃ l, σ₂.Perm (σ₁ ++ l)
theorem SubS.refl {σ : Sto} : SubS σ σ := ⟨[], by rw [List.append_nil]⟩
theorem SubS.nil {σ : Sto} : SubS [] σ := ⟨σ, .refl _⟩
theorem SubS.drop {σ₁ σ₂ : Sto} {e : Addr × AO} (h : SubS σ₁ σ₂) : SubS σ₁ (e :: σ₂) := by
  obtain ⟨l, h⟩ := h
  exact ⟨e :: l, (h.cons e).trans (List.perm_middle.symm)⟩
theorem SubS.pick {σ₁ σ₂ σ₂' : Sto} {e : Addr × AO} (hp : Pick e σ₂ σ₂') (h : SubS σ₁ σ₂') : SubS (e :: σ₁) σ₂ := by
  obtain ⟨l, h⟩ := h
  exact ⟨l, hp.trans (h.cons e)⟩
theorem SubS.trans {σ₁ σ₂ σ₃ : Sto} (h : SubS σ₁ σ₂) (h' : SubS σ₂ σ₃) : SubS σ₁ σ₃ := by
  obtain ⟨l, h⟩ := h
  obtain ⟨l', h'⟩ := h'
  exact ⟨l ++ l', h'.trans ((h.append_right l').trans (by rw [List.append_assoc]))⟩
theorem SubS.mem {σ₁ σ₂ : Sto} (h : SubS σ₁ σ₂) {p : Addr × AO} (hp : p ∈ σ₁) : p ∈ σ₂ := by
  obtain ⟨l, h⟩ := h
  exact h.mem_iff.mpr (List.mem_append_left _ hp)
theorem SubS.app {l σ₁ σ₂ : Sto} (h : SubS σ₁ σ₂) : SubS (l ++ σ₁) (l ++ σ₂) := by
  obtain ⟨l', h⟩ := h
  exact ⟨l', by rw [List.append_assoc]; exact h.append_left l⟩
theorem SubS.appR {l σ : Sto} : SubS σ (l ++ σ) := ⟨l, List.perm_append_comm⟩
theorem Rel.subS {C : Cx} {ρ : Loc} {σ₁ σ₂ : Sto} {s : Shared} (h : Rel C ρ σ₂ s) (hs : SubS σ₁ σ₂) : Rel C ρ σ₁ s := by
  refine h.sub (fun p hp => hs.mem hp) ?_
  obtain ⟨l, hl⟩ := hs
  have := ((hl.map (·.1)).nodup_iff).mp h.nd
  rw [List.map_append] at this
  exact (List.nodup_append.mp this).1
theorem Rel.perm {C : Cx} {ρ : Loc} {σ₁ σ₂ : Sto} {s : Shared} (h : Rel C ρ σ₂ s) (hs : σ₂.Perm σ₁) : Rel C ρ σ₁ s :=
  h.sub (fun p hp => hs.mem_iff.mpr hp) (((hs.map (·.1)).nodup_iff).mp h.nd)
theorem Rel.updP {C : Cx} {ρ : Loc} {σ : Sto} {s : Shared} {a : Addr} {ao ao' : AO} (h : Rel C ρ ((a, ao) :: σ) s) {h' : Heap} {o' : Obj} (hs : Heap.SameBut a s.heap h') (ho : h'.get? a = some o') (hr : RO ao' o') (n : Nat) :
    Rel C ρ ((a, ao') :: σ) { s with heap := h', toks := n } := Rel.upd (pre := []) h hs ho hr n
theorem Rel.extP {C : Cx} {ρ : Loc} {σ : Sto} {s : Shared} {a : Addr} {ao : AO} (h : Rel C ρ ((a, ao) :: σ) s) {h' : Heap} (he : Heap.ExtBut a s.heap h') (n : Nat) : Rel C ρ σ { s with heap := h', toks := n } := Rel.extBut (pre := []) h he n
theorem AW.subS {α β : Type} {C : Cx} {E : Value → Shared → Prop} {ρ : Loc} {σ : Sto} {R : β → α → Prop} {t : Sem α} {Q : β → Loc → Sto → Prop} {σ' : Sto} (h : AW R C E t Q ρ σ') (hs : SubS σ' σ) : AW R C E t Q ρ σ := fun s hr => h s (hr.subS hs)
section
variable {C : Cx} {E : Value → Shared → Prop} {ρ : Loc} {σ : Sto} {env : Env} {pos : Pos} {Q : AV → Loc → Sto → Prop} {QB : Bool → Loc → Sto → Prop} {QF : AF → Loc → Sto → Prop}

-- typed operators
theorem o_add_int {a b : Int} (h : Q (.int (a + b)) ρ σ) : Op2 C E .Add (.int a) (.int b) Q ρ σ := by
  rintro _ _ ⟨t, rfl⟩ ⟨u, rfl⟩ s hs
  exact add_int ⟨.int _, _, _, ⟨_, rfl⟩, hs.toks _, h⟩
theorem o_sub_int {a b : Int} (h : Q (.int (a - b)) ρ σ) : Op2 C E .Sub (.int a) (.int b) Q ρ σ := by
  rintro _ _ ⟨t, rfl⟩ ⟨u, rfl⟩ s hs
  exact sub_int ⟨.int _, _, _, ⟨_, rfl⟩, hs.toks _, h⟩
theorem o_mul_int {a b : Int} (hm : IntMulOk a b) (h : Q (.int (a * b)) ρ σ) : Op2 C E .Mult (.int a) (.int b) Q ρ σ := by
  rintro _ _ ⟨t, rfl⟩ ⟨u, rfl⟩ s hs
  exact mul_int ⟨.int _, _, _, ⟨_, rfl⟩, hs.toks _, h⟩ hm
theorem o_mod_int {a b : Int} (hb : b ≠ 0) (h : Q (.int (Int.fmod a b)) ρ σ) : Op2 C E .Mod (.int a) (.int b) Q ρ σ := by
  rintro _ _ ⟨t, rfl⟩ ⟨u, rfl⟩ s hs
  exact mod_int' hb ⟨.int _, _, _, ⟨_, rfl⟩, hs.toks _, h⟩
theorem o_div_int {a b : Int} (hb : b ≠ 0) (hp : Builtin.divisionGoesByPylong a b = false) (h : Q (.int (Int.fdiv a b)) ρ σ) : Op2 C E .FloorDiv (.int a) (.int b) Q ρ σ := by
  rintro _ _ ⟨t, rfl⟩ ⟨u, rfl⟩ s hs
  exact floordiv_int hb ⟨.int _, _, _, ⟨_, rfl⟩, hs.toks _, h⟩ (.inl hp)
theorem o_pow_int {a n : Int} (h0 : 0 ≤ n) (h1 : n ≤ 1000000) (h2 : a.natAbs < 2 ^ 64) (h : Q (.int (a ^ n.toNat)) ρ σ) : Op2 C E .Pow (.int a) (.int n) Q ρ σ := by
  rintro _ _ ⟨t, rfl⟩ ⟨u, rfl⟩ s hs
  exact pow_int_small h0 h1 h2 ⟨.int _, _, _, ⟨_, rfl⟩, hs.toks _, h⟩
theorem o_add_str {x y : Str} (hsz : x.length + y.length ≤ sizeLine) (h : Q (.str (x ++ y)) ρ σ) : Op2 C E .Add (.str x) (.str y) Q ρ σ := by
  rintro _ _ ⟨t, rfl⟩ ⟨u, rfl⟩ s hs
  exact add_str (fun t' tk => ⟨.str _, _, _, ⟨_, rfl⟩, hs.toks _, h⟩) hsz
theorem o_mul_str {x : Str} {n : Int} (hm : MulOk x n) (h : Q (.str (Txt.mul x n)) ρ σ) : Op2 C E .Mult (.str x) (.int n) Q ρ σ := by
  rintro _ _ ⟨t, rfl⟩ ⟨u, rfl⟩ s hs
  exact SB.mul hm (fun t' tk => ⟨.str _, _, _, ⟨_, rfl⟩, hs.toks _, h⟩)
theorem u_neg_int {a : Int} (h : Q (.int (-a)) ρ σ) : A1 C E (unaryOp .USub) (.int a) Q ρ σ := by
  rintro _ ⟨t, rfl⟩ s hs
  exact neg_int ⟨.int _, _, _, ⟨_, rfl⟩, hs.toks _, h⟩
theorem c_lt_int {a b : Int} (h : Q (.bool (decide (a < b))) ρ σ) : Cmp2 C E .Lt (.int a) (.int b) Q ρ σ := by
  rintro _ _ ⟨t, rfl⟩ ⟨u, rfl⟩ s hs
  exact lt_int ⟨.bool _, _, _, rfl, hs, h⟩
theorem c_gt_int {a b : Int} (h : Q (.bool (decide (b < a))) ρ σ) : Cmp2 C E .Gt (.int a) (.int b) Q ρ σ := by
  rintro _ _ ⟨t, rfl⟩ ⟨u, rfl⟩ s hs
  exact gt_int ⟨.bool _, _, _, rfl, hs, h⟩
theorem c_ge_int {a b : Int} (h : Q (.bool (decide (b ≤ a))) ρ σ) : Cmp2 C E .GtE (.int a) (.int b) Q ρ σ := by
  rintro _ _ ⟨t, rfl⟩ ⟨u, rfl⟩ s hs
  exact ge_int ⟨.bool _, _, _, rfl, hs, h⟩
theorem c_eq_int {a b : Int} (h : Q (.bool (a == b)) ρ σ) : Cmp2 C E .Eq (.int a) (.int b) Q ρ σ := by
  rintro _ _ ⟨t, rfl⟩ ⟨u, rfl⟩ s hs
  exact eq_int ⟨.bool _, _, _, rfl, hs, h⟩
theorem c_ne_int {a b : Int} (h : Q (.bool (a != b)) ρ σ) : Cmp2 C E .NotEq (.int a) (.int b) Q ρ σ := by
  rintro _ _ ⟨t, rfl⟩ ⟨u, rfl⟩ s hs
  exact ne_int ⟨.bool _, _, _, rfl, hs, h⟩
theorem c_eq_str {a b : Str} (h : Q (.bool (a == b)) ρ σ) : Cmp2 C E .Eq (.str a) (.str b) Q ρ σ := by
  rintro _ _ ⟨t, rfl⟩ ⟨u, rfl⟩ s hs
  exact eq_str ⟨.bool _, _, _, rfl, hs, h⟩
theorem c_ne_str {a b : Str} (h : Q (.bool (a != b)) ρ σ) : Cmp2 C E .NotEq (.str a) (.str b) Q ρ σ := by
  rintro _ _ ⟨t, rfl⟩ ⟨u, rfl⟩ s hs
  exact ne_str ⟨.bool _, _, _, rfl, hs, h⟩
theorem RVs.one' {as : List AV} {a : AV} {vs : List Value} (h : RVs [a] vs) : ∃ v, vs = [v] ∧ RV a v := by cases h with | cons h1 h2 => cases h2; exact ⟨_, rfl, h1⟩
theorem RVs.two' {a b : AV} {vs : List Value} (h : RVs [a, b] vs) : ∃ v w, vs = [v, w] ∧ RV a v ∧ RV b w := by
  cases h with | cons h1 h2 => cases h2 with | cons h3 h4 => cases h4; exact ⟨_, _, rfl, h1, h3⟩
theorem RVs.three' {a b c : AV} {vs : List Value} (h : RVs [a, b, c] vs) : ∃ v w x, vs = [v, w, x] ∧ RV a v ∧ RV b w ∧ RV c x := by
  cases h with | cons h1 h2 => cases h2 with | cons h3 h4 => cases h4 with | cons h5 h6 => cases h6; exact ⟨_, _, _, rfl, h1, h3, h5⟩
theorem b_abs {a : Int} (h : Q (.int (if a < 0 then -a else a)) ρ σ) : ACall C E (.builtin "abs") [.int a] Q ρ σ := by
  intro vs hv s hs
  obtain ⟨_, rfl, t, rfl⟩ := RVs.one' (as := []) hv
  exact call_abs_int fun u tk => ⟨.int _, _, _, ⟨_, rfl⟩, hs.toks _, h⟩
theorem b_len_str {x : Str} (hx : x.length ≤ sizeLine) (h : Q (.int x.length) ρ σ) : ACall C E (.builtin "len") [.str x] Q ρ σ := by
  intro vs hv s hs
  obtain ⟨_, rfl, t, rfl⟩ := RVs.one' (as := []) hv
  exact SBL.len (by rw [sizeLine_eq] at hx; omega) ⟨.int _, _, _, ⟨_, rfl⟩, hs.toks _, h⟩
theorem Rel.isList (hs : Rel C ρ σ s) {a : Addr} {xs : List AV} (hm : (a, AO.list xs) ∈ σ) : ∃ vs, RVs xs vs ∧ s.heap.IsList a vs.toArray := by
  obtain ⟨o, e, _, _, vs, n, r, rfl⟩ := hs.led _ hm
  exact ⟨vs, r, _, e, rfl, n, rfl⟩
theorem b_len_list {a : Addr} {xs : List AV} (hm : (a, AO.list xs) ∈ σ) (hx : xs.length ≤ sizeLine) (h : Q (.int xs.length) ρ σ) : ACall C E (.builtin "len") [.ref a] Q ρ σ := by
  intro vs hv s hs
  obtain ⟨_, rfl, rfl⟩ := RVs.one' (as := []) hv
  obtain ⟨ws, r, hl⟩ := hs.isList hm
  refine len_list hl (by rw [sizeLine_eq] at hx; rw [List.size_toArray, r.length]; omega) ?_
  rw [List.size_toArray, r.length]
  exact ⟨.int _, _, _, ⟨_, rfl⟩, hs.toks _, h⟩
theorem Rel.frame (hs : Rel C ρ σ s) : ∃ m news, Fr C.h₀ C.L s.heap m ∧ LocOk ρ m ∧ News C.h₀ C.L s.heap news ∧ (∀ p ∈ σ, ∃ o, (p.1, o) ∈ news ∧ RO p.2 o) := by
  obtain ⟨m, F, l⟩ := hs.fr
  refine ⟨m, σ.filterMap fun p => (s.heap.get? p.1).map fun o => (p.1, o), F, l, fun p hp => ?_, fun p hp => ?_⟩
  · obtain ⟨q, hq, e⟩ := List.mem_filterMap.mp hp
    obtain ⟨o, e1, e2, e3, _⟩ := hs.led q hq
    rw [e1] at e
    cases e
    exact ⟨e1, e2, e3⟩
  · obtain ⟨o, e1, e2, e3, r⟩ := hs.led p hp
    exact ⟨o, List.mem_filterMap.mpr ⟨p, hp, by rw [e1]; rfl⟩, r⟩
theorem Rel.back (hs : Rel C ρ σ s) {m : Str → Option Value} {news : List (Addr × Obj)} {h' : Heap} (hl : LocOk ρ m) (F : Fr C.h₀ C.L h' m) (N : News C.h₀ C.L h' news) (hm : ∀ p ∈ σ, ∃ o, (p.1, o) ∈ news ∧ RO p.2 o) (n : Nat) : Rel C ρ σ { s with heap := h', toks := n } := by
  obtain ⟨⟨h'', tk, e⟩, _, _, nd⟩ := hs
  subst e
  refine ⟨⟨h', n, rfl⟩, ⟨m, F, hl⟩, fun p hp => ?_, nd⟩
  obtain ⟨o, hn, r⟩ := hm p hp
  exact ⟨o, (N _ hn).1, (N _ hn).2.1, (N _ hn).2.2, r⟩
theorem b_max {a b : Int} (hh : C.A.handled = none) (h : Q (.int (if b > a then b else a)) ρ σ) : ACall C E (.builtin "max") [.int a, .int b] Q ρ σ := by
  intro vs hv s hs
  obtain ⟨_, _, rfl, ⟨t, rfl⟩, ⟨u, rfl⟩⟩ := RVs.two' hv
  obtain ⟨m, news, F, hl, N, hm⟩ := hs.frame
  exact max_two_N hh F N fun h' tk F' N' => ⟨.int _, _, _, ⟨_, rfl⟩, hs.back hl F' N' hm _, h⟩
theorem b_startswith {x y : Str} (h : Q (.bool (Txt.startswith x y)) ρ σ) : ACall C E (.builtin "str.startswith") [.str x, .str y] Q ρ σ := by
  intro vs hv s hs
  obtain ⟨_, _, rfl, ⟨t, rfl⟩, ⟨u, rfl⟩⟩ := RVs.two' hv
  exact SC.startswith ⟨.bool _, _, _, rfl, hs, h⟩
theorem b_endswith {x y : Str} (h : Q (.bool (Txt.endswith x y)) ρ σ) : ACall C E (.builtin "str.endswith") [.str x, .str y] Q ρ σ := by
  intro vs hv s hs
  obtain ⟨_, _, rfl, ⟨t, rfl⟩, ⟨u, rfl⟩⟩ := RVs.two' hv
  exact SC.endswith ⟨.bool _, _, _, rfl, hs, h⟩
theorem m_startswith {x : Str} {pl : Sem Bool} {P : Value → List AV → Loc → Sto → Prop} (h : P (.builtin "str.startswith") [.str x] ρ σ) : AMeth C E (.str x) (Str.ofString "startswith") pl P ρ σ := by
  rintro _ ⟨t, rfl⟩ s hs
  exact GM.startswith ⟨[.str x], _, _, .one ⟨_, rfl⟩, hs, h⟩
theorem m_endswith {x : Str} {pl : Sem Bool} {P : Value → List AV → Loc → Sto → Prop} (h : P (.builtin "str.endswith") [.str x] ρ σ) : AMeth C E (.str x) (Str.ofString "endswith") pl P ρ σ := by
  rintro _ ⟨t, rfl⟩ s hs
  exact GM.endswith ⟨[.str x], _, _, .one ⟨_, rfl⟩, hs, h⟩
theorem m_join {x : Str} {pl : Sem Bool} {P : Value → List AV → Loc → Sto → Prop} (h : P (.builtin "str.join") [.str x] ρ σ) : AMeth C E (.str x) (Str.ofString "join") pl P ρ σ := by
  rintro _ ⟨t, rfl⟩ s hs
  exact GM.join ⟨[.str x], _, _, .one ⟨_, rfl⟩, hs, h⟩
theorem m_append {a : Addr} {xs : List AV} {pl : Sem Bool} {P : Value → List AV → Loc → Sto → Prop} (hm : (a, AO.list xs) ∈ σ) (h : P (.builtin "list.append") [.ref a] ρ σ) : AMeth C E (.ref a) (Str.ofString "append") pl P ρ σ := by
  rintro _ rfl s hs
  obtain ⟨o, e, _, _, vs, n, r, rfl⟩ := hs.led _ hm
  exact Calls.getMethod_list_append e rfl rfl ⟨[.ref a], _, _, .one rfl, hs, h⟩
theorem b_append {a : Addr} {xs : List AV} {v : AV} {σ' : Sto} (hσ : Pick (a, .list xs) σ σ') (hx : xs.length ≤ sizeLine) (h : Q .none ρ ((a, .list (xs ++ [v])) :: σ')) : ACall C E (.builtin "list.append") [.ref a, v] Q ρ σ := by
  intro vs hv s hs
  obtain ⟨_, w, rfl, rfl, rw'⟩ := RVs.two' hv
  have hs := hs.perm hσ
  obtain ⟨o, e, _, _, us, n, r, rfl⟩ := hs.led (a, .list xs) (.head _)
  refine append_at e (fun h' hsb hg => ⟨.none, _, _, rfl, hs.updP hsb hg (ao' := .list (xs ++ [v])) ⟨us ++ [w], n + 1, r.append (.one rw'), ?_⟩ s.toks, h⟩) (by rw [List.size_toArray, r.length]; exact hx)
  rw [List.push_toArray]
/-- join of a list of texts -/
theorem RVs.strs {xs : List Str} {vs : List Value} (h : RVs (xs.map AV.str) vs) : ∃ l : List (Str × Tok), vs = strValues l ∧ l.map (·.1) = xs := by
  induction xs generalizing vs with
  | nil => cases h; exact ⟨[], rfl, rfl⟩
  | cons x xs ih =>
    cases h with
    | cons h1 h2 =>
      obtain ⟨t, rfl⟩ := h1
      obtain ⟨l, rfl, rfl⟩ := ih h2
      exact ⟨(x, t) :: l, rfl, rfl⟩
theorem b_join {x : Str} {a : Addr} {xs : List Str} (hm : (a, AO.list (xs.map AV.str)) ∈ σ) (ho : JoinOk x xs = true) (h : Q (.str (Txt.join x xs)) ρ σ) : ACall C E (.builtin "str.join") [.str x, .ref a] Q ρ σ := by
  intro vs hv s hs
  obtain ⟨_, _, rfl, ⟨t, rfl⟩, rfl⟩ := RVs.two' hv
  obtain ⟨ws, r, hl⟩ := hs.isList hm
  obtain ⟨l, rfl, el⟩ := r.strs
  exact SC.join hl el ho fun t' k => ⟨.str _, _, _, ⟨_, rfl⟩, hs.toks _, h⟩
theorem s_item_str {value slice : Expr} {x : Str} {i : Int} (h1 : -(x.length : Int) ≤ i) (h2 : i < x.length) (hx : x.length ≤ sizeLine) (h : Q (.str (Txt.item x i)) ρ σ)
    (hsl : ∀ t u, subscripted slice false (.str x t) (.int i u) = operate [.str x t, .int i u] (getItem (.str x t) (.int i u)) := by intro _ _; with_unfolding_all rfl)
    (ht : ∀ t r, letTemporaryGo value (.str x t) r = pure () := by intro _ _; with_unfolding_all rfl) : A2 C E (subscriptTail value slice) (.str x) (.int i) Q ρ σ := by
  rintro _ _ ⟨t, rfl⟩ ⟨u, rfl⟩ s hs
  refine item_str ?_ h1 h2 (fun _ => ⟨.str _, _, _, ⟨_, rfl⟩, hs.toks _, h⟩) (hsl _ _) (ht _)
  rw [sizeLine_eq] at hx
  unfold fitsSsize
  simp only [Bool.not_eq_true', Bool.or_eq_false_iff, decide_eq_false_iff_not]
  omega
/-- a slice of a value -/
def ASl (C : Cx) (E : Value → Shared → Prop) (value slice : Expr) (o a b : AV) (Q : AV → Loc → Sto → Prop) (ρ : Loc) (σ : Sto) : Prop :=
  ∀ vo va vb s, RV o vo → RV a va → RV b vb → Rel C ρ σ s → wpAny (model C.prog C.w) C.A (subscriptTail value slice vo (.ref s.heap.objs.size)) (fun r s' => ∃ ar ρ' σ', RV ar r ∧ Rel C ρ' σ' s' ∧ Q ar ρ' σ') E
    { s with heap := s.heap.push { cls := .type "slice", data := .fields #[va, vb, .none] } }
theorem aw_SubSlice {value : Expr} {l u : Option Expr} {p : Pos} (h : AW RV C E (eval value env) (fun o ρ₁ σ₁ => AW RV C E (evalPart l env) (fun a ρ₂ σ₂ => AW RV C E (evalPart u env) (fun b ρ₃ σ₃ => ASl C E value (.Slice l u none p) o a b Q ρ₃ σ₃) ρ₂ σ₂) ρ₁ σ₁) ρ σ) :
    AW RV C E (eval (.Subscript value (.Slice l u none p) pos) env) Q ρ σ :=
  fun _ hs => Subscript_ (h.lift1 hs fun vo _ _ _ _ ro hs₁ h₁ => wpAny_Slice (h₁.lift1 hs₁ fun va _ _ _ _ ra hs₂ h₂ => h₂.lift1 hs₂ fun vb _ _ _ _ rb hs₃ h₃ => wpAny_pure (h₃ vo va vb _ ro ra rb hs₃)))
theorem sl_str_nn {value slice : Expr} {x : Str} (hx : x.length ≤ sizeLine) (h : Q (.str (Txt.slice x none none)) ρ σ)
    (hsl : ∀ t r, subscripted slice false (.str x t) (.ref r) = operate [.ref r, .str x t] (getItem (.str x t) (.ref r)) := by intro _ _; with_unfolding_all rfl)
    (ht : ∀ t r, letTemporaryGo value (.str x t) r = pure () := by intro _ _; with_unfolding_all rfl) : ASl C E value slice (.str x) .none .none Q ρ σ := by
  rintro _ _ _ s ⟨t, rfl⟩ rfl rfl hs
  obtain ⟨m, news, F, hl, N, hm⟩ := hs.frame
  exact slice_strN_nn F N (fun h' t' k F' N' => ⟨.str _, _, _, ⟨_, rfl⟩, hs.back hl F' N' hm _, h⟩) (hsl _ _) (ht _) hx
theorem sl_str_ns {value slice : Expr} {x : Str} {j : Int} (hx : x.length ≤ sizeLine) (h : Q (.str (Txt.slice x none (some j))) ρ σ)
    (hsl : ∀ t r, subscripted slice false (.str x t) (.ref r) = operate [.ref r, .str x t] (getItem (.str x t) (.ref r)) := by intro _ _; with_unfolding_all rfl)
    (ht : ∀ t r, letTemporaryGo value (.str x t) r = pure () := by intro _ _; with_unfolding_all rfl) : ASl C E value slice (.str x) .none (.int j) Q ρ σ := by
  rintro _ _ _ s ⟨t, rfl⟩ rfl ⟨u, rfl⟩ hs
  obtain ⟨m, news, F, hl, N, hm⟩ := hs.frame
  exact slice_strN_ns F N (fun h' t' k F' N' => ⟨.str _, _, _, ⟨_, rfl⟩, hs.back hl F' N' hm _, h⟩) (hsl _ _) (ht _) hx
theorem sl_str_sn {value slice : Expr} {x : Str} {i : Int} (hx : x.length ≤ sizeLine) (h : Q (.str (Txt.slice x (some i) none)) ρ σ)
    (hsl : ∀ t r, subscripted slice false (.str x t) (.ref r) = operate [.ref r, .str x t] (getItem (.str x t) (.ref r)) := by intro _ _; with_unfolding_all rfl)
    (ht : ∀ t r, letTemporaryGo value (.str x t) r = pure () := by intro _ _; with_unfolding_all rfl) : ASl C E value slice (.str x) (.int i) .none Q ρ σ := by
  rintro _ _ _ s ⟨t, rfl⟩ ⟨u, rfl⟩ rfl hs
  obtain ⟨m, news, F, hl, N, hm⟩ := hs.frame
  exact slice_strN_sn F N (fun h' t' k F' N' => ⟨.str _, _, _, ⟨_, rfl⟩, hs.back hl F' N' hm _, h⟩) (hsl _ _) (ht _) hx
theorem sl_str_ss {value slice : Expr} {x : Str} {i j : Int} (hx : x.length ≤ sizeLine) (h : Q (.str (Txt.slice x (some i) (some j))) ρ σ)
    (hsl : ∀ t r, subscripted slice false (.str x t) (.ref r) = operate [.ref r, .str x t] (getItem (.str x t) (.ref r)) := by intro _ _; with_unfolding_all rfl)
    (ht : ∀ t r, letTemporaryGo value (.str x t) r = pure () := by intro _ _; with_unfolding_all rfl) : ASl C E value slice (.str x) (.int i) (.int j) Q ρ σ := by
  rintro _ _ _ s ⟨t, rfl⟩ ⟨u, rfl⟩ ⟨w, rfl⟩ hs
  obtain ⟨m, news, F, hl, N, hm⟩ := hs.frame
  exact slice_strN_ss F N (fun h' t' k F' N' => ⟨.str _, _, _, ⟨_, rfl⟩, hs.back hl F' N' hm _, h⟩) (hsl _ _) (ht _) hx
-- ranges
abbrev rangeO (a b : Int) : AO := .pred fun o => ∃ t u v, o = { cls := .type "range", data := .fields #[.int a t, .int b u, .int 1 v] }
theorem b_range1 {n : Int} (h : ∀ r, Q (.ref r) ρ ((r, rangeO 0 n) :: σ)) : ACall C E (.type "range") [.int n] Q ρ σ := by
  intro vs hv s hs
  obtain ⟨_, rfl, t, rfl⟩ := RVs.one' (as := []) hv
  exact call_range_1 ⟨.ref _, _, _, rfl, hs.push (ao := rangeO 0 n) ⟨_, _, _, rfl⟩ rfl _, h _⟩
theorem b_range2 {a n : Int} (h : ∀ r, Q (.ref r) ρ ((r, rangeO a n) :: σ)) : ACall C E (.type "range") [.int a, .int n] Q ρ σ := by
  intro vs hv s hs
  obtain ⟨_, _, rfl, ⟨t, rfl⟩, ⟨u, rfl⟩⟩ := RVs.two' hv
  exact call_range_2 ⟨.ref _, _, _, rfl, hs.push (ao := rangeO a n) ⟨_, _, _, rfl⟩ rfl _, h _⟩
theorem o_add_list {a b : Addr} {xs ys : List AV} (ha : (a, AO.list xs) ∈ σ) (hb : (b, AO.list ys) ∈ σ) (hz : xs.length + ys.length ≤ sizeLine) (h : ∀ r, Q (.ref r) ρ ((r, .list (xs ++ ys)) :: σ)) : Op2 C E .Add (.ref a) (.ref b) Q ρ σ := by
  rintro _ _ rfl rfl s hs
  obtain ⟨m, news, F, hl, N, hm⟩ := hs.frame
  obtain ⟨vs, rv, hv⟩ := hs.isList ha
  obtain ⟨ws, rw', hw⟩ := hs.isList hb
  refine add_arrays F N hv hw (fun h' F' N' => ⟨.ref _, _, ((s.heap.objs.size, .list (xs ++ ys)) :: σ), rfl, ?_, h _⟩) (by simp only [List.size_toArray, rv.length, rw'.length]; exact hz)
  have hfr := hs.fresh
  have hb1 := hs.back (h' := h') hl F' N' (fun p hp => by obtain ⟨o, x, r⟩ := hm p hp; exact ⟨o, .tail _ x, r⟩) s.toks
  refine ⟨hb1.shape, hb1.fr, fun p hp => ?_, ?_⟩
  · rcases List.mem_cons.mp hp with rfl | hp
    · have := N' _ (.head _)
      exact ⟨_, this.1, this.2.1, this.2.2, vs ++ ws, 0, rv.append rw', rfl⟩
    · exact hb1.led p hp
  · rw [List.map_cons, List.nodup_cons]
    refine ⟨fun hx => ?_, hb1.nd⟩
    obtain ⟨p, hp, e⟩ := List.mem_map.mp hx
    exact hfr.2.2 p hp e
end

-- loops
/-- what an exception within a loop's turn meets -/
abbrev LE (C : Cx) (env : Env) (E : Value → Shared → Prop) : Value → Shared → Prop := notedBy (model C.prog C.w) C.A env (cameBackBy (model C.prog C.w) C.A env E)
def RL (C : Cx) (env : Env) (E : Value → Shared → Prop) (QF : AF → Loc → Sto → Prop) (r : Result) (s' : Shared) : Prop := match r with
  | .ok f => ∃ f' ρ' σ', RF f' f ∧ Rel C ρ' σ' s' ∧ QF f' ρ' σ'
  | .error e => cameBackBy (model C.prog C.w) C.A env E e s'
def AWhile (C : Cx) (E : Value → Shared → Prop) (test : Expr) (body : List Stmt) (env : Env) (QF : AF → Loc → Sto → Prop) (ρ : Loc) (σ : Sto) : Prop :=
  ∀ s, Rel C ρ σ s → codeAny (model C.prog C.w) C.A (.whileLoop test body [] env) (RL C env E QF) s
def AFor (C : Cx) (E : Value → Shared → Prop) (target : Expr) (I : Addr) (body : List Stmt) (env : Env) (QF : AF → Loc → Sto → Prop) (ρ : Loc) (σ : Sto) : Prop :=
  ∀ s, Rel C ρ σ s → codeAny (model C.prog C.w) C.A (.forLoop target (.ref I) body [] env) (RL C env E QF) s
/-- what a turn's end asks: go on, or leave -/
def Turn (QF : AF → Loc → Sto → Prop) (again : Loc → Sto → Prop) : AF → Loc → Sto → Prop := fun f ρ σ => match f with
  | .next => again ρ σ
  | .cont => again ρ σ
  | .brk => QF .next ρ σ
  | .ret v => QF (.ret v) ρ σ
section
variable {C : Cx} {E : Value → Shared → Prop} {ρ : Loc} {σ : Sto} {env : Env} {pos : Pos} {QF : AF → Loc → Sto → Prop} {test : Expr} {body : List Stmt} {target : Expr} {I : Addr}
theorem ex_while (h : AWhile C E test body env QF ρ σ) : AW RF C E (exec (.While test body [] pos) env) QF ρ σ := by
  intro s hs
  refine wpAny_While (codeAny_mono (h s hs) fun r s' hr => ?_)
  cases r with
  | ok f => exact hr
  | error e => exact hr
theorem AWhile.loc {ρ' : Loc} (h : AWhile C E test body env QF ρ' σ) (hs : ∀ x v, ρ'.lookup x = some v → ρ.lookup x = some v) : AWhile C E test body env QF ρ σ := fun s hr => h s (hr.loc hs)
theorem AWhile.sublist {σ' : Sto} (h : AWhile C E test body env QF ρ σ') (hs : List.Sublist σ' σ) : AWhile C E test body env QF ρ σ :=
  fun s hr => h s (hr.sub (fun _ hp => hs.subset hp) ((hs.map _).nodup hr.nd))
theorem AWhile.sub {σ' : Sto} (h : AWhile C E test body env QF ρ σ') (hs : ∀ p ∈ σ', p ∈ σ) (nd : (σ.map (·.1)).Nodup → (σ'.map (·.1)).Nodup) : AWhile C E test body env QF ρ σ :=
  fun s hr => h s (hr.sub hs (nd hr.nd))
theorem wh_turn (h : AW (Eq (α := Bool)) C (LE C env E) (isTrue test env (eval test env)) (fun b ρ₁ σ₁ => if b = true then AW RF C (LE C env E) (execs body env) (Turn QF (AWhile C E test body env QF)) ρ₁ σ₁ else QF .next ρ₁ σ₁) ρ σ) :
    AWhile C E test body env QF ρ σ := by
  intro s hs
  refine codeAny_loop' rfl (fun _ s' => s' = s) (fun n s' e => ?_) 0 rfl
  subst e
  show wpAny _ C.A ((whileTurn test body [] env).onRaise (fun x => do noteFrame x env; theTreesLotGoes x)) _ _ s'
  refine wpAny_noted ?_
  simp only [whileTurn]
  refine wpAny_bind (h.lift1 hs fun b b' ρ₁ σ₁ s₁ e hs₁ h₁ => ?_)
  subst e
  cases b' with
  | false =>
    simp only [Bool.false_eq_true, if_false] at h₁ ⊢
    exact wpAny_bind (wpAny_execs_nil (wpAny_pure ⟨.next, _, _, rfl, hs₁, h₁⟩))
  | true =>
    simp only [if_true] at h₁ ⊢
    refine wpAny_bind (h₁.lift1 hs₁ fun f f' ρ₂ σ₂ s₂ rf hs₂ h₂ => ?_)
    cases f' with
    | next => cases rf; exact wpAny_pure (.inr ⟨rfl, h₂ _ hs₂⟩)
    | cont => cases rf; exact wpAny_pure (.inr ⟨rfl, h₂ _ hs₂⟩)
    | brk => cases rf; exact wpAny_pure ⟨.next, _, _, rfl, hs₂, h₂⟩
    | ret a => obtain ⟨v, rfl, rv⟩ := rf; exact wpAny_pure ⟨.ret a, _, _, ⟨v, rfl, rv⟩, hs₂, h₂⟩
theorem AFor.loc {ρ' : Loc} (h : AFor C E target I body env QF ρ' σ) (hs : ∀ x v, ρ'.lookup x = some v → ρ.lookup x = some v) : AFor C E target I body env QF ρ σ := fun s hr => h s (hr.loc hs)
theorem AFor.sub {σ' : Sto} (h : AFor C E target I body env QF ρ σ') (hs : ∀ p ∈ σ', p ∈ σ) (nd : (σ.map (·.1)).Nodup → (σ'.map (·.1)).Nodup) : AFor C E target I body env QF ρ σ :=
  fun s hr => h s (hr.sub hs (nd hr.nd))
theorem AFor.sublist {σ' : Sto} (h : AFor C E target I body env QF ρ σ') (hs : List.Sublist σ' σ) : AFor C E target I body env QF ρ σ :=
  h.sub (fun _ hp => hs.subset hp) fun nd => (hs.map _).nodup nd
/-- the iterator at I gives v, then holds ao' -/
def NxI (C : Cx) (I : Addr) (ao : AO) (σ' : Sto) (v : AV) (ao' : AO) : Prop :=
  ∀ ρ s (E : Value → Shared → Prop) (Q : Option Value → Shared → Prop), Rel C ρ ((I, ao) :: σ') s → (∀ vv s', RV v vv → Rel C ρ ((I, ao') :: σ') s' → Q (some vv) s') → wpAny (model C.prog C.w) C.A (pyNext (.ref I)) Q E s
def NxE (C : Cx) (I : Addr) (ao : AO) (σ' : Sto) : Prop :=
  ∀ ρ s (E : Value → Shared → Prop) (Q : Option Value → Shared → Prop), Rel C ρ ((I, ao) :: σ') s → (∀ s', Rel C ρ σ' s' → Q none s') → wpAny (model C.prog C.w) C.A (pyNext (.ref I)) Q E s
/-- the iterator is its own iterator -/
def NxS (C : Cx) (I : Addr) (ao : AO) : Prop :=
  ∀ o, RO ao o → ∀ s (E : Value → Shared → Prop) (Q : Value → Shared → Prop), s.heap.get? I = some o → Q (.ref I) s → wpAny (model C.prog C.w) C.A (pyIter (.ref I)) Q E s
/-- assigning to a target -/
def AAs (C : Cx) (E : Value → Shared → Prop) (env : Env) (target : Expr) (I : Addr) (v : AV) (Q : Loc → Sto → Prop) (ρ : Loc) (σ : Sto) : Prop :=
  ∀ vv, RV v vv → AW (Eq (α := Unit)) C E (do letOwnedTupleGo target (.ref I) vv; assign target env vv) (fun _ => Q) ρ σ
theorem as_name {x : Str} {px : Pos} {v : AV} {Q : Loc → Sto → Prop} (h : ASt C E env x v Q ρ σ) : AAs C E env (.Name x px) I v Q ρ σ := by
  intro vv rv s hs
  refine wpAny_bind (wpAny_pure ?_)
  exact wpAny_assign_Name (h vv rv s hs)
theorem for_item {σ' : Sto} {ao ao' : AO} {v : AV} (hσ : Pick (I, ao) σ σ') (nx : NxI C I ao σ' v ao')
    (h : AAs C (LE C env E) env target I v (fun ρ₁ σ₁ => AW RF C (LE C env E) (execs body env) (Turn QF (AFor C E target I body env QF)) ρ₁ σ₁) ρ ((I, ao') :: σ')) :
    AFor C E target I body env QF ρ σ := by
  intro s hs
  have hs := hs.perm hσ
  refine codeAny_loop' rfl (fun _ s' => s' = s) (fun n s' e => ?_) 0 rfl
  subst e
  show wpAny _ C.A ((forTurn target (.ref I) body [] env).onRaise (fun x => do noteFrame x env; theTreesLotGoes x)) _ _ s'
  refine wpAny_noted ?_
  simp only [forTurn]
  refine wpAny_bind (wpAny_standAt (wpAny_bind (wpAny_onRaise (nx ρ s' _ _ hs fun vv s₁ rv hs₁ => ?_))))
  have h₁ := h vv rv s₁ hs₁
  have h₂ : wpAny (model C.prog C.w) C.A (do letOwnedTupleGo target (.ref I) vv; assign target env vv) (fun _ s₂ => wpAny (model C.prog C.w) C.A (do
      match ← execs body env with
      | .next | .cont => again (.forLoop target (.ref I) body [] env)
      | .brk => pure (.done .next)
      | .ret v => pure (.done (.ret v))) (fun fin s'' => match fin with
        | .done f => RL C env E QF (.ok f) s''
        | .again c' => (c' = Code.forLoop target (.ref I) body [] env ∧ ∃ m, m < n ∧ s'' = s') ∨ (c'.quiet = true ∧ codeAny (model C.prog C.w) C.A c' (RL C env E QF) s'')) (LE C env E) s₂) (LE C env E) s₁ := by
    refine wpAny_mono h₁ (fun _ s₂ ⟨_, ρ₂, σ₂, _, hs₂, q⟩ => ?_) fun _ _ e => e
    refine wpAny_bind (q.lift1 hs₂ fun f f' ρ₃ σ₃ s₃ rf hs₃ h₃ => ?_)
    cases f' with
    | next => cases rf; exact wpAny_pure (.inr ⟨rfl, h₃ _ hs₃⟩)
    | cont => cases rf; exact wpAny_pure (.inr ⟨rfl, h₃ _ hs₃⟩)
    | brk => cases rf; exact wpAny_pure ⟨.next, _, _, rfl, hs₃, h₃⟩
    | ret a => obtain ⟨v, rfl, rv⟩ := rf; exact wpAny_pure ⟨.ret a, _, _, ⟨v, rfl, rv⟩, hs₃, h₃⟩
  have h₃ := wpAny_bind h₂
  rw [bind_assoc] at h₃
  exact wpAny_mono h₃ (fun fin s' hf => hf) fun _ _ e => e
theorem for_end {σ' : Sto} {ao : AO} (hσ : Pick (I, ao) σ σ') (nx : NxE C I ao σ') (h : QF .next ρ σ') : AFor C E target I body env QF ρ σ := by
  intro s hs
  have hs := hs.perm hσ
  refine codeAny_loop' rfl (fun _ s' => s' = s) (fun n s' e => ?_) 0 rfl
  subst e
  show wpAny _ C.A ((forTurn target (.ref I) body [] env).onRaise (fun x => do noteFrame x env; theTreesLotGoes x)) _ _ s'
  refine wpAny_noted ?_
  simp only [forTurn]
  refine wpAny_bind (wpAny_standAt (wpAny_bind (wpAny_onRaise (nx ρ s' _ _ hs fun s₁ hs₁ => wpAny_pure (.inr ⟨rfl, codeAny_block (wpAny_execs_nil ⟨.next, _, _, rfl, hs₁, h⟩)⟩)))))
/-- making the iterator -/
def AIt (C : Cx) (E : Value → Shared → Prop) (a : AV) (P : Addr → Loc → Sto → Prop) (ρ : Loc) (σ : Sto) : Prop :=
  ∀ v, RV a v → ∀ s, Rel C ρ σ s → wpAny (model C.prog C.w) C.A (pyIter v) (fun it s' => ∃ I ρ' σ', it = .ref I ∧ Rel C ρ' σ' s' ∧ P I ρ' σ') E s
theorem ex_for {iter : Expr} (h : AW RV C E (eval iter env) (fun a ρ₁ σ₁ => AIt C E a (fun I ρ₂ σ₂ => AFor C E target I body env QF ρ₂ σ₂) ρ₁ σ₁) ρ σ) (hf : ∀ x, foldedSetIterable iter env x = pure x := by intro _; rfl) :
    AW RF C E (exec (.For target iter body [] pos) env) QF ρ σ := by
  intro s hs
  refine wpAny_For (h.lift1 hs fun v a _ _ _ rv hs₁ h₁ => wpAny_mono (h₁ v rv _ hs₁) (fun it s' ⟨I, ρ', σ', e, hs₂, h₂⟩ => ?_) fun _ _ e => e) hf
  subst e
  refine codeAny_mono (h₂ _ hs₂) fun r s' hr => ?_
  cases r with
  | ok f => exact hr
  | error e => exact hr
abbrev literO (ax : Addr) (i : Nat) : AO := .pred fun o => o.cls = .type "list_iterator" ∧ o.data = .fields #[.ref ax, .int i 0]
theorem it_list {a : Addr} {xs : List AV} {P : Addr → Loc → Sto → Prop} (hm : (a, AO.list xs) ∈ σ) (h : ∀ I, P I ρ ((I, literO a 0) :: σ)) : AIt C E (.ref a) P ρ σ := by
  rintro _ rfl s hs
  obtain ⟨vs, rv, hv⟩ := hs.isList hm
  exact wpAny_pyIter_list hv ⟨_, _, _, rfl, hs.push (ao := literO a 0) ⟨rfl, rfl⟩ rfl s.toks, h _⟩
theorem nx_list {ax : Addr} {i : Nat} {xs : List AV} {v : AV} {σ' : Sto} (hm : (ax, AO.list xs) ∈ σ') (hv : xs[i]? = some v) : NxI C I (literO ax i) σ' v (literO ax (i + 1)) := by
  intro ρ s E Q hs k
  obtain ⟨vs, rv, hl⟩ := (hs.appL (pre := [])).isList hm
  obtain ⟨vv, e, r⟩ := rv.get hv
  obtain ⟨o, ho, _, _, hc, hd⟩ := hs.led (I, literO ax i) (.head _)
  refine wpAny_pyNext_list_item (l := ax) (i := i) ⟨o, ho, hc, hd⟩ hl (by simpa using e) fun h' hi hsb => ?_
  obtain ⟨o', ho', hc', hd'⟩ := hi
  exact k vv _ r (hs.updP hsb ho' (ao' := literO ax (i + 1)) ⟨hc', hd'⟩ s.toks)
theorem nx_list_end {ax : Addr} {i : Nat} {xs : List AV} {σ' : Sto} (hh : C.A.handled = none) (hm : (ax, AO.list xs) ∈ σ') (hv : xs.length ≤ i) : NxE C I (literO ax i) σ' := by
  intro ρ s E Q hs k
  obtain ⟨vs, rv, hl⟩ := (hs.appL (pre := [])).isList hm
  obtain ⟨o, ho, _, _, hc, hd⟩ := hs.led (I, literO ax i) (.head _)
  refine wpAny_pyNext_list_end hh (l := ax) (i := i) ⟨o, ho, hc, hd⟩ hl (by simp [rv.length]; exact hv) fun h' he => ?_
  exact k _ (hs.extP he s.toks)
/-- a list of the heap below -/
def BaseL (C : Cx) (a : Addr) (xs : List AV) : Prop := ∃ vs, RVs xs vs ∧ C.h₀.IsList a vs.toArray
theorem Rel.baseL {s : Shared} (hs : Rel C ρ σ s) {a : Addr} {xs : List AV} (hb : BaseL C a xs) : ∃ vs, RVs xs vs ∧ s.heap.IsList a vs.toArray := by
  obtain ⟨vs, rv, hl⟩ := hb
  obtain ⟨m, F, _⟩ := hs.fr
  exact ⟨vs, rv, hl.at fun o e => F.keep a o e⟩
theorem it_base {a : Addr} {xs : List AV} {P : Addr → Loc → Sto → Prop} (hb : BaseL C a xs) (h : ∀ I, P I ρ ((I, literO a 0) :: σ)) : AIt C E (.ref a) P ρ σ := by
  rintro _ rfl s hs
  obtain ⟨vs, rv, hv⟩ := hs.baseL hb
  exact wpAny_pyIter_list hv ⟨_, _, _, rfl, hs.push (ao := literO a 0) ⟨rfl, rfl⟩ rfl s.toks, h _⟩
theorem nx_base {ax : Addr} {i : Nat} {xs : List AV} {v : AV} {σ' : Sto} (hb : BaseL C ax xs) (hv : xs[i]? = some v) : NxI C I (literO ax i) σ' v (literO ax (i + 1)) := by
  intro ρ s E Q hs k
  obtain ⟨vs, rv, hl⟩ := hs.baseL hb
  obtain ⟨vv, e, r⟩ := rv.get hv
  obtain ⟨o, ho, _, _, hc, hd⟩ := hs.led (I, literO ax i) (.head _)
  refine wpAny_pyNext_list_item (l := ax) (i := i) ⟨o, ho, hc, hd⟩ hl (by simpa using e) fun h' hi hsb => ?_
  obtain ⟨o', ho', hc', hd'⟩ := hi
  exact k vv _ r (hs.updP hsb ho' (ao' := literO ax (i + 1)) ⟨hc', hd'⟩ s.toks)
theorem nx_base_end {ax : Addr} {i : Nat} {xs : List AV} {σ' : Sto} (hh : C.A.handled = none) (hb : BaseL C ax xs) (hv : xs.length ≤ i) : NxE C I (literO ax i) σ' := by
  intro ρ s E Q hs k
  obtain ⟨vs, rv, hl⟩ := hs.baseL hb
  obtain ⟨o, ho, _, _, hc, hd⟩ := hs.led (I, literO ax i) (.head _)
  refine wpAny_pyNext_list_end hh (l := ax) (i := i) ⟨o, ho, hc, hd⟩ hl (by simp [rv.length]; exact hv) fun h' he => ?_
  exact k _ (hs.extP he s.toks)
abbrev riterO (x left : Int) : AO := .pred fun o => o = { cls := .type "range_iterator", data := .fields #[rawInt x, rawInt left, rawInt 1] }
theorem it_range {a : Addr} {x y : Int} {P : Addr → Loc → Sto → Prop} (hm : (a, rangeO x y) ∈ σ) (hs1 : Builtin.Range.small x y 1 = true) (h : ∀ I, P I ρ ((I, riterO x (if x < y then y - x else 0)) :: σ)) : AIt C E (.ref a) P ρ σ := by
  rintro _ rfl s hs
  obtain ⟨o, e, _, _, t, u, v, rfl⟩ := hs.led _ hm
  refine wpAny_pyIter_range (r := a) (a := x) (b := y) (c := 1) e hs1 ⟨_, _, _, rfl, hs.push (ao := riterO x (if x < y then y - x else 0)) ?_ rfl s.toks, h _⟩
  rw [rangeSize_one]; rfl
theorem nx_range {x left : Int} {σ' : Sto} (hl : 0 < left) : NxI C I (riterO x left) σ' (.int x) (riterO (x + 1) (left - 1)) := by
  intro ρ s E Q hs k
  obtain ⟨o, ho, _, _, e⟩ := hs.led (I, riterO x left) (.head _)
  subst e
  refine wpAny_pyNext_range_item (it := I) (x := x) (left := left) (step := 1) ho hl fun h' hi hsb => ?_
  exact k _ _ ⟨_, rfl⟩ (hs.updP hsb hi (ao' := riterO (x + 1) (left - 1)) rfl _)
theorem nx_range_end {x left : Int} {σ' : Sto} (hh : C.A.handled = none) (hl : left ≤ 0) : NxE C I (riterO x left) σ' := by
  intro ρ s E Q hs k
  obtain ⟨o, ho, _, _, e⟩ := hs.led (I, riterO x left) (.head _)
  subst e
  exact wpAny_pyNext_range_end (it := I) (x := x) (left := left) (step := 1) hh ho hl fun h' he => k _ (hs.extP he s.toks)
theorem ns_list {ax : Addr} {i : Nat} : NxS C I (literO ax i) := fun o ho s E Q e hq => wpAny_pyIter_listiter (l := ax) (i := i) ⟨o, e, ho.1, ho.2⟩ hq
theorem ns_range {x left : Int} : NxS C I (riterO x left) := fun o ho s E Q e hq => by
  have ho' : o = _ := ho
  subst ho'
  exact wpAny_pyIter_rangeiter (x := x) (left := left) (step := 1) e hq
theorem AFor.subS {σ' : Sto} (h : AFor C E target I body env QF ρ σ') (hs : SubS σ' σ) : AFor C E target I body env QF ρ σ := fun s hr => h s (hr.subS hs)
theorem AWhile.subS {σ' : Sto} (h : AWhile C E test body env QF ρ σ') (hs : SubS σ' σ) : AWhile C E test body env QF ρ σ := fun s hr => h s (hr.subS hs)
end
end Mine
namespace Mine
open PySem PySem.W PySem.Spec PySem.Calls PyProof.Rows

-- the defs of a program's text
def fnDef (p : Program) (n : String) : Option (Arguments × List Stmt × Scope) := p.main.body.findSome? fun st => match st with
  | .FunctionDef m a b _ _ _ sc _ _ _ => if m == Str.ofString n then some (a, b, sc) else none
  | _ => none
def fnBody (p : Program) (n : String) : List Stmt := match fnDef p n with | some (_, b, _) => b | none => []
def fnScope (p : Program) (n : String) : Scope := match fnDef p n with | some (_, _, sc) => sc | none => default
def fnArgs (p : Program) (n : String) : Arguments := match fnDef p n with | some (a, _, _) => a | none => default

def Cx.callee (C : Cx) (env env' : Env) (g : Heap) (L' : Addr) : Cx := { C with A := C.A.deeper env', A₀ := C.A, outer := env :: C.outer, h₀ := g, L := L' }
/-- what an exception meets that leaves a def -/
abbrev CE (C : Cx) (env' : Env) (E : Value → Shared → Prop) : Value → Shared → Prop := fun e s' => wpAny (model C.prog C.w) (C.A.deeper env') (leaving env' e) (fun _ s'' => E e s'') E s'
def AF.val : AF → AV
  | .ret v => v
  | _ => .none

theorem lk_mem {β : Type} {y : Str} {v : β} : ∀ {l : List (Str × β)}, l.lookup y = some v → (y, v) ∈ l
  | [], h => by simp at h
  | (a, b) :: r, h => by
    rw [List.lookup_cons] at h
    by_cases e : y = a
    · subst e; simp at h; subst h; exact .head _
    · simp only [beq_eq_false_iff_ne.mpr e] at h; exact .tail _ (lk_mem h)
theorem lk_nd {β : Type} {y : Str} {v : β} : ∀ {l : List (Str × β)}, (l.map (·.1)).Nodup → (y, v) ∈ l → l.lookup y = some v
  | (a, b) :: r, hn, h => by
    rw [List.map_cons, List.nodup_cons] at hn
    rw [List.lookup_cons]
    rcases List.mem_cons.mp h with e | h
    · cases e; simp
    · have : y ≠ a := fun e => hn.1 (e ▸ List.mem_map.mpr ⟨_, h, rfl⟩)
      simp only [beq_eq_false_iff_ne.mpr this]
      exact lk_nd hn.2 h
theorem zip_keys : ∀ (names : List Str) (vs : List Value), names.Nodup → ((names.zip vs).map (·.1)).Nodup
  | [], vs, _ => by simp
  | n :: r, [], _ => by simp
  | n :: r, v :: vs, hnd => by
    rw [List.zip_cons_cons, List.map_cons, List.nodup_cons]
    rw [List.nodup_cons] at hnd
    refine ⟨fun hm => ?_, zip_keys r vs hnd.2⟩
    obtain ⟨p, hp, e⟩ := List.mem_map.mp hm
    have e' : p.1 = n := e
    exact hnd.1 (e' ▸ (List.of_mem_zip hp).1)
theorem zip_mem : ∀ {names : List Str} {as : List AV} {vs : List Value}, RVs as vs → ∀ {x : Str} {a : AV}, (x, a) ∈ names.zip as → ∃ v, (x, v) ∈ names.zip vs ∧ RV a v
  | [], _, _, _, _, _, h => by simp at h
  | n :: r, _, _, .nil, _, _, h => by simp at h
  | n :: r, _, _, .cons h1 h2, x, a, h => by
    rw [List.zip_cons_cons] at h
    rcases List.mem_cons.mp h with e | h
    · cases e; exact ⟨_, .head _, h1⟩
    · obtain ⟨v, hv, rv⟩ := zip_mem h2 h
      exact ⟨v, .tail _ hv, rv⟩
theorem lookup_zip_rev {names : List Str} {as : List AV} {vs : List Value} (hn : names.Nodup) (h : RVs as vs) : LocOk (names.zip as) (fun y => (names.zip vs).reverse.lookup y) := by
  intro x a hx
  obtain ⟨v, hv, rv⟩ := zip_mem h (lk_mem hx)
  refine ⟨v, lk_nd ?_ (List.mem_reverse.mpr hv), rv⟩
  rw [List.map_reverse]
  exact (List.reverse_perm _).nodup_iff.mpr (zip_keys names vs hn)

section
variable {C : Cx} {E : Value → Shared → Prop} {ρ : Loc} {σ : Sto} {env : Env} {pos : Pos} {Q : AV → Loc → Sto → Prop} {n : Nat}

theorem Cx.Ok.callee {env env' : Env} {n : Nat} {g : Heap} {L' : Addr} {s : Shared} (O : C.Ok env (n + 1)) (B' : Below C.A C.base (env :: C.outer) g) (st : C.h₀.StaysIn g) (hf' : env'.frame = some L') (hk' : env'.scope.kind = .function) : (C.callee env env' g L').Ok env' n where
  B := B'
  X := O.X.keeps st
  T := O.T.keeps st
  hA := Around.frames_deeper O.hA
  hf := hf'
  hk := hk'
  hh := O.hh
  depth := by have := O.depth; show C.A.depth + 1 + n < recursionLimit; omega
  units := by have := O.units; show C.A.units + 3 + 10 * n < cLine; omega

theorem b_def {f : Addr} {name qual : Str} {params : Arguments} {body : List Stmt} {scope : Scope} {dV kV doc pm cdv ct oc : Value} {an od : Option Addr} {osl : Array (Option Value)} {as : List AV} {names : List Str}
    (O : C.Ok env (n + 1)) (ho : C.K.lookup f = some ⟨oc, od, .func (fnX name qual params body scope [] dV kV doc pm an cdv ct), osl⟩) (hcd : codeIn C.K cdv qual = true)
    (hb : ∀ vs : List Value, vs.length = as.length → bindArgs (fnX name qual params body scope [] dV kV doc pm an cdv ct) ⟨vs, []⟩ = Pure.pure (names.zip vs)) (hnd : names.Nodup) (hloc : ∀ y ∈ names, scope.names.lookup y = some .local)
    (hcell : ∀ x ∈ scope.names, x.2 ≠ .cell) (hco : scope.isCoroutine = false) (hgen : scope.isGenerator = false) (hk : scope.kind = .function)
    (h : ∀ g L', (C.callee env (envX qual scope L' f cdv []) g L').Ok (envX qual scope L' f cdv []) n → C.h₀.StaysIn g → AW RF (C.callee env (envX qual scope L' f cdv []) g L') (CE C (envX qual scope L' f cdv []) E) (execs body (envX qual scope L' f cdv [])) (fun fl _ σ' => Q fl.val ρ σ') (names.zip as) σ) :
    ACall C E (.ref f) as Q ρ σ := by
  intro vs hvs s hs
  obtain ⟨m, news, F, hl, N, hm⟩ := hs.frame
  refine wpAny_call ?_
  refine callX_plain (binds := names.zip vs) O.B F N O.T.nolimit O.hA O.hf O.hk ((O.X.keeps F.keep) _ _ ho) rfl (codeRec_of (O.X.keeps F.keep) hcd) (by have := O.depth; omega) (BindsTo.of_eq (hb vs hvs.length)) (fun y hy => hloc _ (List.of_mem_zip hy).1)
    (fun g L' h₁ FG F' N' B' st _ => ?_) hcell hco hgen hk
  have hs' : Rel (C.callee env (envX qual scope L' f cdv []) g L') (names.zip as) σ { s with heap := h₁, toks := s.toks + (names.zip vs).length } := by
    obtain ⟨⟨h'', tk, e⟩, _, _, nd⟩ := hs
    subst e
    refine ⟨⟨h₁, _, rfl⟩, ⟨_, F', lookup_zip_rev hnd hvs⟩, fun p hp => ?_, nd⟩
    obtain ⟨o, hn, r⟩ := hm p hp
    exact ⟨o, (N' _ hn).1, (N' _ hn).2.1, (N' _ hn).2.2, r⟩
  refine wpAny_mono (h g L' (O.callee (s := s) B' st rfl hk) st _ hs') (fun fl s' ⟨fl', ρ', σ', rf, hs₂, q⟩ => ?_) fun e s' x => ?_
  · obtain ⟨m', news', F₂, hl₂, N₂, hm₂⟩ := hs₂.frame
    refine leaveK_ F₂ N₂ fun F₃ N₃ => ?_
    have hr : Rel C ρ σ' s' := by
      obtain ⟨⟨h'', tk, e⟩, _, _, nd⟩ := hs₂
      refine ⟨⟨h'', tk, e⟩, ⟨m, F₃, hl⟩, fun p hp => ?_, nd⟩
      obtain ⟨o, hn, r⟩ := hm₂ p hp
      exact ⟨o, (N₃ _ hn).1, (N₃ _ hn).2.1, (N₃ _ hn).2.2, r⟩
    cases fl' with
    | next => cases rf; exact ⟨.none, ρ, σ', rfl, hr, q⟩
    | brk => cases rf; exact ⟨.none, ρ, σ', rfl, hr, q⟩
    | cont => cases rf; exact ⟨.none, ρ, σ', rfl, hr, q⟩
    | ret a => obtain ⟨v, rfl, rv⟩ := rf; exact ⟨a, ρ, σ', rv, hr, q⟩
  · exact x
end
end Mine
namespace Mine
open PySem PySem.W PySem.Spec PySem.Calls PyProof.Rows

/-- a comprehension's loop -/
def AComp (C : Cx) (elt target iter : Expr) (ifs : List Expr) (scope : Scope) (pos : Pos) (I D : Addr) (cenv : Env) (QC : Loc → Sto → Prop) (ρ : Loc) (σ : Sto) : Prop :=
  ∀ s (RR : Result → Shared → Prop), Rel C ρ σ s → (∀ ρ' σ' s', Rel C ρ' σ' s' → QC ρ' σ' → RR (.ok .next) s') → codeAny (model C.prog C.w) C.A (.compLoop (.ListComp elt [⟨target, iter, ifs, 0⟩] scope pos) 0 (.ref I) (.ref D) cenv) RR s
/-- a comprehension's tests -/
def ATests (C : Cx) (E : Value → Shared → Prop) (ifs : List Expr) (cenv : Env) (QB : Bool → Loc → Sto → Prop) (ρ : Loc) (σ : Sto) : Prop :=
  AW (Eq (α := Bool)) C E (forIn ifs true fun c r => if r = true then do let ok ← isTrue c cenv (eval c cenv); Pure.pure (ForInStep.yield ok) else Pure.pure (ForInStep.yield r)) QB ρ σ
def PFc (M : Model) (A : Around) (RR : Result → Shared → Prop) (c : Code) (n : Nat) (s' : Shared) : Fin → Shared → Prop := fun fin s'' => match fin with
  | .done f => RR (.ok f) s''
  | .again c' => (c' = c ∧ ∃ m, m < n ∧ s'' = s') ∨ (c'.quiet = true ∧ codeAny M A c' RR s'')
section
variable {C : Cx} {E : Value → Shared → Prop} {ρ : Loc} {σ : Sto} {env cenv : Env} {pos : Pos} {elt target iter : Expr} {ifs : List Expr} {scope : Scope} {I D : Addr} {QC : Loc → Sto → Prop} {QB : Bool → Loc → Sto → Prop}
theorem te_nil (h : QB true ρ σ) : ATests C E [] cenv QB ρ σ := fun _ hs => wpAny_tests_nil ⟨true, _, _, rfl, hs, h⟩
theorem te_one {c : Expr} (h : AW (Eq (α := Bool)) C E (isTrue c cenv (eval c cenv)) QB ρ σ) : ATests C E [c] cenv QB ρ σ := fun s hs => wpAny_tests_one (h s hs)
theorem AComp.subS {σ' : Sto} (h : AComp C elt target iter ifs scope pos I D cenv QC ρ σ') (hs : SubS σ' σ) : AComp C elt target iter ifs scope pos I D cenv QC ρ σ := fun s RR hr k => h s RR (hr.subS hs) k
/-- what an element's end asks -/
def CTurn (C : Cx) (elt target iter : Expr) (ifs : List Expr) (scope : Scope) (pos : Pos) (I D : Addr) (cenv : Env) (QC : Loc → Sto → Prop) : AV → Loc → Sto → Prop := fun y ρ₂ σ₂ =>
  ∃ acc σ₃, Pick (D, .list acc) σ₂ σ₃ ∧ acc.length ≤ sizeLine ∧ AComp C elt target iter ifs scope pos I D cenv QC ρ₂ ((D, .list (acc ++ [y])) :: σ₃)
theorem cp_item {σ' : Sto} {ao ao' : AO} {v : AV} (hσ : Pick (I, ao) σ σ') (nx : NxI C I ao σ' v ao')
    (h : ∀ E', AAs C E' cenv target I v (fun ρ₁ σ₁ => ATests C E' ifs cenv (fun ok ρ₂ σ₂ => if ok = true then AW RV C E' (eval elt cenv) (CTurn C elt target iter ifs scope pos I D cenv QC) ρ₂ σ₂ else AComp C elt target iter ifs scope pos I D cenv QC ρ₂ σ₂) ρ₁ σ₁) ρ ((I, ao') :: σ')) :
    AComp C elt target iter ifs scope pos I D cenv QC ρ σ := by
  intro s RR hs k
  have hs := hs.perm hσ
  refine codeAny_loop' rfl (fun _ s' => s' = s) (fun n s' e => ?_) 0 rfl
  subst e
  show wpAny _ C.A ((compTurn (.ListComp elt [⟨target, iter, ifs, 0⟩] scope pos) 0 (.ref I) (.ref D) cenv).onRaise (fun x => do noteFrame x cenv; theTreesLotGoes x)) _ _ s'
  refine wpAny_noted ?_
  rw [compTurn_list]
  refine wpAny_bind (wpAny_standAt (wpAny_bind (nx ρ s' _ _ hs fun vv s₁ rv hs₁ => ?_)))
  generalize notedBy _ _ _ _ = E'
  have h₁ := h E' vv rv s₁ hs₁
  have fin : ∀ s₅, codeAny (model C.prog C.w) C.A (.compLoop (.ListComp elt [⟨target, iter, ifs, 0⟩] scope pos) 0 (.ref I) (.ref D) cenv) RR s₅ →
      PFc (model C.prog C.w) C.A RR (.compLoop (.ListComp elt [⟨target, iter, ifs, 0⟩] scope pos) 0 (.ref I) (.ref D) cenv) n s' (Fin.again (.compLoop (.ListComp elt [⟨target, iter, ifs, 0⟩] scope pos) 0 (.ref I) (.ref D) cenv)) s₅ := fun s₅ x => .inr ⟨rfl, x⟩
  have h₂ := wpAny_bind (Q := PFc (model C.prog C.w) C.A RR (.compLoop (.ListComp elt [⟨target, iter, ifs, 0⟩] scope pos) 0 (.ref I) (.ref D) cenv) n s') (f := fun _ => do
        let mut ok := true
        for c in ifs do
          if ok then ok ← isTrue c cenv (eval c cenv)
        if ok then
          (do let _ ← call (.builtin "list.append") [.ref D, ← eval elt cenv])
        again (.compLoop (.ListComp elt [⟨target, iter, ifs, 0⟩] scope pos) 0 (.ref I) (.ref D) cenv)) (wpAny_mono h₁ (fun _ s₂ ⟨_, ρ₂, σ₂, _, hs₂, q⟩ => wpAny_bind (q.lift1 hs₂ fun ok ok' ρ₃ σ₃ s₃ e hs₃ h₃ => by
      subst e
      cases ok' with
      | false =>
        simp only [Bool.false_eq_true, if_false] at h₃
        exact wpAny_pure (fin _ (h₃ _ _ hs₃ k))
      | true =>
        simp only [if_true] at h₃
        refine wpAny_bind (wpAny_bind (h₃.lift1 hs₃ fun y a ρ₄ σ₄ s₄ ry hs₄ h₄ => ?_))
        obtain ⟨acc, σ₅, hp, hl, h₅⟩ := h₄
        refine wpAny_bind ((b_append (C := C) (E := E') (ρ := ρ₄) (Q := fun _ ρ' σ' => AComp C elt target iter ifs scope pos I D cenv QC ρ' σ') hp hl h₅ [.ref D, y] (.cons rfl (.one ry))).lift1 hs₄ fun _ _ ρ₆ σ₆ s₆ _ hs₆ h₆ => ?_)
        exact wpAny_pure (wpAny_pure (fin _ (h₆ _ _ hs₆ k))))) fun _ _ e => e)
  rw [bind_assoc] at h₂
  exact wpAny_mono h₂ (fun fin s' hf => by cases fin <;> exact hf) fun _ _ e => e
theorem cp_end {σ' : Sto} {ao : AO} (hσ : Pick (I, ao) σ σ') (nx : NxE C I ao σ') (h : QC ρ σ') : AComp C elt target iter ifs scope pos I D cenv QC ρ σ := by
  intro s RR hs k
  have hs := hs.perm hσ
  refine codeAny_loop' rfl (fun _ s' => s' = s) (fun n s' e => ?_) 0 rfl
  subst e
  show wpAny _ C.A ((compTurn (.ListComp elt [⟨target, iter, ifs, 0⟩] scope pos) 0 (.ref I) (.ref D) cenv).onRaise (fun x => do noteFrame x cenv; theTreesLotGoes x)) _ _ s'
  refine wpAny_noted ?_
  rw [compTurn_list]
  exact wpAny_bind (wpAny_standAt (wpAny_bind (nx ρ s' _ _ hs fun s₁ hs₁ => wpAny_pure (k _ _ _ hs₁ h))))
/-- behind the loop: the comprehension's own names go -/
def CDone (c D : Addr) (Q : AV → Loc → Sto → Prop) : Loc → Sto → Prop := fun ρ' σ' => ∃ ρ₂ σ'', Pick (c, .ns ρ₂) σ' σ'' ∧ Q (.ref D) ρ' σ''

theorem comp_start {QC' : Addr → Addr → Loc → Sto → Prop} {ao : AO} {cl : List (Str × Addr)} {s₂ : Shared} {RR : Value → Addr → Result → Shared → Prop} (hs : Rel C ρ σ s₂) (hI : (I, ao) ∈ σ) (nsf : NxS C I ao)
    (hcell : ∀ y ∈ scope.names, y.2 ≠ .cell) (hkind : scope.kind = .function)
    (h : ∀ D c, AComp C elt target iter ifs scope pos I D (compEnvC scope cl c env) (QC' D c) ρ ((c, .ns []) :: (D, .list []) :: σ))
    (hRR : ∀ D c ρ' σ' s', Rel C ρ' σ' s' → QC' D c ρ' σ' → RR (.ref D) c (.ok .next) s') :
    wpAny (model C.prog C.w) C.A (newList []) (fun acc s₃ => wpAny (model C.prog C.w) C.A (newFunctionEnv scope env.globals cl [] env.qual none .none (some env)) (fun cenv s₄ =>
      codeAny (model C.prog C.w) C.A (.compStart (.ListComp elt [⟨target, iter, ifs, 0⟩] scope pos) 0 (.ref I) acc { cenv with scope := relabel scope env }) (RR acc cenv.locals) s₄) E s₃) E s₂ := by
  refine wpAny_newObj_type (wpAny_newFunctionEnv hcell (by intro y hy; simp at hy) (fun h₁ hns₁ hsb₁ => ?_) hkind)
  dsimp only at hns₁ hsb₁ ⊢
  have hs₃ : Rel C ρ ((s₂.heap.objs.size, AO.list []) :: σ) { s₂ with heap := s₂.heap.push { cls := .type "list", dict := none, data := .seq ([] : List Value).toArray }, toks := s₂.toks } := hs.push (ao := .list []) ⟨[], 0, .nil, rfl⟩ rfl _
  generalize hH2 : s₂.heap.push { cls := .type "list", dict := none, data := .seq ([] : List Value).toArray } = H2 at hns₁ hsb₁ hs₃ ⊢
  have hs₄ := hs₃.push (o := { cls := .type "dict", data := .dict #[] }) (ao := .pred fun _ => True) trivial rfl s₂.toks
  obtain ⟨oC, eC, hoC⟩ := LCg.ns_obj hns₁
  have hs₅ : Rel C ρ ((H2.objs.size, AO.ns []) :: (s₂.heap.objs.size, .list []) :: σ) { s₂ with heap := h₁, toks := s₂.toks + ([] : List (Str × Value)).length } :=
    hs₄.updP hsb₁ eC (ao' := .ns []) ⟨_, hoC, fun x v e => by simp at e⟩ _
  have key := h s₂.heap.objs.size H2.objs.size _ (RR (.ref s₂.heap.objs.size) H2.objs.size) hs₅ (fun ρ' σ' s' hr hq => hRR _ _ _ _ _ hr hq)
  obtain ⟨oI, eI, _, _, rI⟩ := hs₅.led (I, ao) (.tail _ (.tail _ hI))
  exact codeAny_compStart_list key (nsf oI rI _ _ _ eI key)

theorem aw_ListComp {cl : List (Str × Addr)} {Q : AV → Loc → Sto → Prop} (hclos : closureFor scope env = Pure.pure cl) (hcell : ∀ y ∈ scope.names, y.2 ≠ .cell) (hkind : scope.kind = .function) (hnames : ∀ y ∈ scope.names, y.2 = .local → scope.names.lookup y.1 = some .local)
    (h : AW RV C E (eval iter env) (fun a ρ₁ σ₁ => AIt C E a (fun I ρ₂ σ₂ => ∃ ao, (I, ao) ∈ σ₂ ∧ NxS C I ao ∧ ∀ D c, AComp C elt target iter ifs scope pos I D (compEnvC scope cl c env) (CDone c D Q) ρ₂ ((c, .ns []) :: (D, .list []) :: σ₂)) ρ₁ σ₁) ρ σ)
    (hs : ∀ x, foldedSetIterable iter env x = Pure.pure x := by intro _; rfl) :
    AW RV C E (eval (.ListComp elt [⟨target, iter, ifs, 0⟩] scope pos) env) Q ρ σ := by
  intro s hs₀
  rw [eval_ListComp]
  refine wpAny_comprehension_free (use := none) rfl hs hclos hkind hnames (h.lift1 hs₀ fun v a _ _ s₁ rv hs₁ h₁ => wpAny_mono (h₁ v rv _ hs₁) (fun it s₂ ⟨I, ρ', σ', e, hs₂, ao, hI, nsf, h₂⟩ => ?_) fun _ _ e => e)
  subst e
  refine comp_start (RR := fun acc c => compPost (model C.prog C.w) C.A E none (fun a s' => ∃ b ρ' σ', RV b a ∧ Rel C ρ' σ' s' ∧ Q b ρ' σ') acc c) hs₂ hI nsf hcell hkind (QC' := fun D c => CDone c D Q) h₂ ?_
  rintro D c ρ₃ σ₃ s₃ hs₃ ⟨ρ₂, σ₄, hp, hq⟩
  have hs₃ := hs₃.perm hp
  obtain ⟨o, e, _, _, m, hn, _⟩ := hs₃.led (c, .ns ρ₂) (.head _)
  exact ⟨m, hn.ns e, fun h' hsb => ⟨.ref D, _, _, rfl, hs₃.extP hsb.extBut s₃.toks, hq⟩⟩
/-- x = [.. for ..]: the text stores ahead of letting the names go -/
theorem ex_assign_comp {cl : List (Str × Addr)} {y : Str} {py spos : Pos} {QF : AF → Loc → Sto → Prop} (hsw : swapsWith (.ListComp elt [⟨target, iter, ifs, 0⟩] scope pos) (some (.Name y py)) spos.line env = Pure.pure true)
    (hclos : closureFor scope env = Pure.pure cl) (hcell : ∀ y ∈ scope.names, y.2 ≠ .cell) (hkind : scope.kind = .function) (hnames : ∀ y ∈ scope.names, y.2 = .local → scope.names.lookup y.1 = some .local)
    (h : AW RV C E (eval iter env) (fun a ρ₁ σ₁ => AIt C E a (fun I ρ₂ σ₂ => ∃ ao, (I, ao) ∈ σ₂ ∧ NxS C I ao ∧ ∀ D c, AComp C elt target iter ifs scope pos I D (compEnvC scope cl c env)
      (fun ρ₃ σ₃ => ASt C E env y (.ref D) (fun ρ₄ σ₄ => ∃ ρ₅ σ₅, Pick (c, .ns ρ₅) σ₄ σ₅ ∧ QF .next ρ₄ σ₅) ρ₃ σ₃) ρ₂ ((c, .ns []) :: (D, .list []) :: σ₂)) ρ₁ σ₁) ρ σ)
    (hs : ∀ x, foldedSetIterable iter env x = Pure.pure x := by intro _; rfl) :
    AW RF C E (exec (.Assign [.Name y py] (.ListComp elt [⟨target, iter, ifs, 0⟩] scope pos) spos) env) QF ρ σ := by
  intro s hs₀
  rw [exec_Assign_Name_used _ _ _ _ hsw]
  refine wpAny_bind (wpAny_standAt (wpAny_bind ?_))
  show wpAny _ C.A (do let _ ← comprehension (.ListComp elt [⟨target, iter, ifs, 0⟩] scope pos) scope env _ (newList []) false (eval iter env) (some (assign (.Name y py) env))) _ _ s
  refine wpAny_bind (wpAny_mono (wpAny_comprehension_free (Q := fun _ s' => ∃ b ρ' σ', RF b .next ∧ Rel C ρ' σ' s' ∧ QF b ρ' σ') (use := some (assign (.Name y py) env)) rfl hs hclos hkind hnames (h.lift1 hs₀ fun v a _ _ s₁ rv hs₁ h₁ => wpAny_mono (h₁ v rv _ hs₁) (fun it s₂ ⟨I, ρ', σ', e, hs₂, ao, hI, nsf, h₂⟩ => ?_) fun _ _ e => e)) (fun _ s' hq => wpAny_pure (wpAny_pure hq)) fun _ _ e => e)
  subst e
  refine comp_start (RR := fun acc c => compPost (model C.prog C.w) C.A E (some (assign (.Name y py) env)) (fun _ s' => ∃ b ρ' σ', RF b .next ∧ Rel C ρ' σ' s' ∧ QF b ρ' σ') acc c) hs₂ hI nsf hcell hkind
    (QC' := fun D c ρ₃ σ₃ => ASt C E env y (.ref D) (fun ρ₄ σ₄ => ∃ ρ₅ σ₅, Pick (c, .ns ρ₅) σ₄ σ₅ ∧ QF .next ρ₄ σ₅) ρ₃ σ₃) h₂ ?_
  rintro D c ρ₃ σ₃ s₃ hs₃ hq
  show wpAny _ C.A (assign (.Name y py) env (.ref D)) _ _ _
  refine wpAny_assign_Name ((hq (.ref D) rfl).lift1 hs₃ fun _ _ ρ₄ σ₄ s₄ _ hs₄ ⟨ρ₅, σ₅, hp, hq'⟩ => ?_)
  have hs₄ := hs₄.perm hp
  obtain ⟨o, e, _, _, m, hn, _⟩ := hs₄.led (c, .ns ρ₅) (.head _)
  exact ⟨m, hn.ns e, fun h' hsb => ⟨.next, _, _, rfl, hs₄.extP hsb.extBut s₄.toks, hq'⟩⟩
end
end Mine
namespace Mine
open PySem PySem.W PySem.Spec PySem.Calls PyProof.Rows

/-- a text by its signs -/
def tx (l : List Nat) : Str := ⟨l.toArray⟩
@[simp] theorem tx_len (l : List Nat) : (tx l).length = l.length := by simp [tx, Str.length]
theorem tx_cps (l : List Nat) : (tx l).cps.toList = l := by simp [tx]
theorem tx_app (a b : List Nat) : tx a ++ tx b = tx (a ++ b) := by
  apply Str.ext'
  rw [Str.cps_append]
  simp [tx]
theorem tx_inj {a b : List Nat} : tx a = tx b ↔ a = b := by
  constructor
  · intro h; have := congrArg (fun x : Str => x.cps.toList) h; simpa [tx_cps] using this
  · intro h; rw [h]
theorem tx_beq (a b : List Nat) : (tx a == tx b) = decide (a = b) := by
  by_cases h : a = b
  · subst h; simp
  · have : tx a ≠ tx b := fun e => h (tx_inj.mp e)
    simp [h, this]
theorem tx_bne (a b : List Nat) : (tx a != tx b) = decide (a ≠ b) := by
  rw [bne, tx_beq]; simp
theorem tx_empty : Str.empty = tx [] := rfl
def cAt (i : Int) (n : Nat) : Nat := (max 0 (min (if i < 0 then i + n else i) n)).toNat
def cLo (a : Option Int) (n : Nat) : Nat := match a with | none => 0 | some i => cAt i n
def cHi (b : Option Int) (n : Nat) : Nat := match b with | none => n | some i => cAt i n
theorem cAt_le (i : Int) (n : Nat) : cAt i n ≤ n := by unfold cAt; omega
theorem filterMap_range (l : List Nat) (a k : Nat) (h : a + k ≤ l.length) : ((List.range k).map (a + ·)).filterMap (fun x => l.toArray[x]?) = (l.drop a).take k := by
  induction k with
  | zero => simp
  | succ k ih =>
    rw [List.range_succ, List.map_append, List.filterMap_append, ih (by omega)]
    have h1 : a + k < l.length := by omega
    rw [List.take_add_one]
    simp [h1]
theorem tx_slice (l : List Nat) (a b : Option Int) : Txt.slice (tx l) a b = tx ((l.drop (cLo a l.length)).take (cHi b l.length - cLo a l.length)) := by
  have hidx : Builtin.Str.strSliceIndices a b 1 (tx l).length = (List.range (cHi b l.length - cLo a l.length)).map (cLo a l.length + ·) := by
    rw [tx_len]
    rw [← sliceRange_one]
    have e1 : ∀ i : Int, (if (1 : Int) > 0 then max 0 (min (if i < 0 then i + (l.length : Int) else i) l.length) else max (-1) (min (if i < 0 then i + (l.length : Int) else i) (l.length - 1))) = (cAt i l.length : Int) := by
      intro i
      simp only [cAt, show (1 : Int) > 0 from by decide, if_true]; omega
    unfold Builtin.Str.strSliceIndices
    cases a <;> cases b <;> simp only [e1, cLo, cHi] <;> rfl
  have hle : cLo a l.length ≤ l.length := by cases a with | none => exact Nat.zero_le _ | some i => exact cAt_le i _
  have hle2 : cHi b l.length ≤ l.length := by cases b with | none => exact Nat.le_refl _ | some i => exact cAt_le i _
  unfold Txt.slice
  rw [hidx]
  split
  · rename_i hc
    simp at hc
    have : cLo a l.length = 0 := by omega
    have : cHi b l.length = l.length := by omega
    simp [*]
  · show tx _ = _
    congr 1
    show List.filterMap (fun x => l.toArray[x]?) _ = _
    by_cases h : cLo a l.length ≤ cHi b l.length
    · exact filterMap_range l _ _ (by omega)
    · have : cHi b l.length - cLo a l.length = 0 := by omega
      simp [this]
theorem tx_from (l : List Nat) {i : Int} (h : 0 ≤ i) : Txt.slice (tx l) (some i) none = tx (l.drop i.toNat) := by
  rw [tx_slice]
  simp only [cLo, cHi, cAt]
  congr 1
  by_cases hi : i ≤ l.length
  · have e : (max 0 (min (if i < 0 then i + (l.length : Int) else i) l.length)).toNat = i.toNat := by omega
    rw [e, List.take_of_length_le (by simp)]
  · have e : (max 0 (min (if i < 0 then i + (l.length : Int) else i) l.length)).toNat = l.length := by omega
    rw [e, List.drop_of_length_le (Nat.le_refl _), List.drop_of_length_le (by omega)]
    simp
theorem tx_to (l : List Nat) {i : Int} (h : 0 ≤ i) : Txt.slice (tx l) none (some i) = tx (l.take i.toNat) := by
  rw [tx_slice]
  simp only [cLo, cHi, cAt, List.drop_zero, Nat.sub_zero]
  congr 1
  by_cases hi : i ≤ l.length
  · have e : (max 0 (min (if i < 0 then i + (l.length : Int) else i) l.length)).toNat = i.toNat := by omega
    rw [e]
  · have e : (max 0 (min (if i < 0 then i + (l.length : Int) else i) l.length)).toNat = l.length := by omega
    rw [e, List.take_of_length_le (Nat.le_refl _), List.take_of_length_le (by omega)]
theorem tx_to_neg (l : List Nat) {i : Int} (h : i < 0) : Txt.slice (tx l) none (some i) = tx (l.take (l.length + i).toNat) := by
  rw [tx_slice]
  simp only [cLo, cHi, cAt, List.drop_zero, Nat.sub_zero]
  congr 2
  omega
theorem tx_from_neg (l : List Nat) {i : Int} (h : i < 0) : Txt.slice (tx l) (some i) none = tx (l.drop (l.length + i).toNat) := by
  rw [tx_slice]
  simp only [cLo, cHi, cAt]
  have e : (max 0 (min (if i < 0 then i + (l.length : Int) else i) l.length)).toNat = (l.length + i).toNat := by omega
  rw [e, List.take_of_length_le (by simp)]
theorem tx_between (l : List Nat) {i j : Int} (h : 0 ≤ i) (hj : 0 ≤ j) : Txt.slice (tx l) (some i) (some j) = tx ((l.take j.toNat).drop i.toNat) := by
  rw [tx_slice]
  simp only [cLo, cHi, cAt]
  congr 1
  rw [List.drop_take]
  by_cases h1 : i ≤ l.length
  · have e : (max 0 (min (if i < 0 then i + (l.length : Int) else i) l.length)).toNat = i.toNat := by omega
    rw [e]
    by_cases h2 : j ≤ l.length
    · have e2 : (max 0 (min (if j < 0 then j + (l.length : Int) else j) l.length)).toNat = j.toNat := by omega
      rw [e2]
    · have e2 : (max 0 (min (if j < 0 then j + (l.length : Int) else j) l.length)).toNat = l.length := by omega
      rw [e2, List.take_of_length_le (by simp), List.take_of_length_le (by simp; omega)]
  · have e : (max 0 (min (if i < 0 then i + (l.length : Int) else i) l.length)).toNat = l.length := by omega
    rw [e, List.drop_of_length_le (Nat.le_refl _), List.drop_of_length_le (by omega)]
    simp
theorem tx_starts (l p : List Nat) : Txt.startswith (tx l) (tx p) = decide (l.take p.length = p) := by
  unfold Txt.startswith
  rw [StrLaws.subAt_eq]
  simp only [tx_len, tx_cps, List.drop_zero, Nat.zero_add]
  by_cases h : l.take p.length = p
  · have : p.length ≤ l.length := by have := congrArg List.length h; simp at this; omega
    simp [h, this]
  · simp [h]
theorem tx_ends (l p : List Nat) : Txt.endswith (tx l) (tx p) = decide (p.length ≤ l.length ∧ l.drop (l.length - p.length) = p) := by
  unfold Txt.endswith
  rw [StrLaws.subAt_eq]
  simp only [tx_len, tx_cps, Nat.zero_add]
  by_cases h : p.length ≤ l.length
  · rw [List.take_of_length_le (by simp; omega)]
    simp only [h, decide_true, true_and, Bool.true_and]
    by_cases hh : l.drop (l.length - p.length) = p <;> simp [hh]
  · simp [h]
theorem tx_item (l : List Nat) {i : Int} (h0 : 0 ≤ i) (h1 : i < l.length) : Txt.item (tx l) i = tx [l.getD i.toNat 0] := by
  have : (tx l).cps[i.toNat]? = some (l.getD i.toNat 0) := by
    have : i.toNat < l.length := by omega
    simp [tx, this]
  rw [item_meets h0 this]; rfl
theorem tx_item_neg (l : List Nat) {i : Int} (h0 : i < 0) (h1 : -(l.length : Int) ≤ i) : Txt.item (tx l) i = tx [l.getD (l.length + i).toNat 0] := by
  have := item_closes_neg (x := tx l) h0 (by simpa using h1) (j := i + l.length) (by simp)
  rw [beq_iff_eq] at this
  rw [this]
  show (⟨#[_]⟩ : Str) = ⟨[_].toArray⟩
  simp [tx, Int.add_comm]
theorem fold_rep (l : List Nat) : ∀ (k : Nat) (a : Array Nat), (List.foldl (fun x1 x2 => x1 ++ x2) a (List.replicate k l.toArray)).toList = a.toList ++ (List.replicate k l).flatten
  | 0, a => by simp
  | k + 1, a => by
    rw [List.replicate_succ, List.foldl_cons, fold_rep l k]
    simp [List.replicate_succ]
theorem tx_mul (l : List Nat) (n : Int) : Txt.mul (tx l) n = tx (List.replicate n.toNat l).flatten := by
  unfold Txt.mul
  split
  · rename_i h
    have : n.toNat = 0 := by omega
    rw [this]; rfl
  · split
    · rename_i h1 h2
      simp at h2
      rcases h2 with h2 | h2
      · subst h2; simp
      · have : l = [] := by simpa using h2
        subst this
        congr 1
        simp
    · apply Str.ext'
      apply Array.ext'
      show (List.foldl _ #[] (List.replicate _ l.toArray)).toList = _
      rw [fold_rep]
      simp [tx]
theorem tx_mul1 (c : Nat) (n : Int) : Txt.mul (tx [c]) n = tx (List.replicate n.toNat c) := by
  rw [tx_mul]
  congr 1
  induction n.toNat with
  | zero => rfl
  | succ k ih => rw [List.replicate_succ, List.replicate_succ, List.flatten_cons, ih]; rfl
def joinL (sep : List Nat) : List (List Nat) → List Nat
  | [] => []
  | [x] => x
  | x :: rest => x ++ sep ++ joinL sep rest
theorem tx_join (sep : List Nat) (ls : List (List Nat)) : Txt.join (tx sep) (ls.map tx) = tx (joinL sep ls) := by
  show Builtin.Str.glued _ _ = _
  rw [StrLaws.glued_eq_join]
  induction ls with
  | nil => rfl
  | cons x r ih =>
    cases r with
    | nil => rfl
    | cons y r =>
      show tx x ++ tx sep ++ Str.join (tx sep) ((y :: r).map tx) = _
      rw [ih, tx_app, tx_app]; rfl
theorem joinL_nil (ls : List (List Nat)) : joinL [] ls = ls.flatten := by
  induction ls with
  | nil => rfl
  | cons x r ih =>
    cases r with
    | nil => simp [joinL]
    | cons y r => simp only [joinL, List.append_nil, List.flatten_cons] at ih ⊢; rw [ih]
theorem mulOk_tx {l : List Nat} {n : Int} (h : (l.length : Int) * n ≤ 1000000) (hl : l.length ≤ 1000000) (hn : n ≤ 1000000) (hn' : -1000000 ≤ n) : MulOk (tx l) n := by
  unfold MulOk
  simp only [tx_len]
  refine ⟨by simp; omega, fun h1 h2 => ?_, fun h1 h2 => ?_⟩
  · intro h3
    have hn1 : 1 ≤ n := by omega
    have : (2 ^ 63 - 1) / n * n ≤ 2 ^ 63 - 1 := Int.ediv_mul_le _ (by omega)
    have h4 : (1000000 : Int) < (2 ^ 63 - 1) / n := by
      refine Int.lt_of_lt_of_le (b := (2 ^ 63 - 1) / 1000000) (by decide) ?_
      rw [Int.le_ediv_iff_mul_le (by omega)]
      have : (2 ^ 63 - 1) / 1000000 * n ≤ (2 ^ 63 - 1) / 1000000 * 1000000 := Int.mul_le_mul_of_nonneg_left hn (by decide)
      omega
    omega
  · have e : ((l.length * n.toNat : Nat) : Int) ≤ 1000000 := by
      rw [Int.natCast_mul, Int.toNat_of_nonneg (by omega)]; exact h
    unfold Builtin.Str.tooLong
    rw [sizeLine_eq]
    simp
    omega
end Mine
namespace Mine
open PySem PySem.W PySem.Spec PySem.Calls PyProof.Rows
section
variable {C : Cx} {E : Value → Shared → Prop} {ρ : Loc} {σ : Sto} {pos : Pos} {x q : Str} {sc : Scope} {f : Addr} {cd : Value} {cl : List (Str × Addr)} {v : AV} {Q : AV → Loc → Sto → Prop} {n : Nat}
-- names in a def's frame
theorem xn_local (hk : sc.kind = .function) (hx : sc.names.lookup x = some .local) (hl : ρ.lookup x = some v) (h : Q v ρ σ) (hd : (x == ("__debug__" : Str)) = false) : AW RV C E (eval (.Name x pos) (envX q sc C.L f cd cl)) Q ρ σ :=
  aw_local hl h rfl hk hx hd
theorem xn_cell {c : Addr} (hk : sc.kind = .function) (hx : sc.names.lookup x = some .cell) (hc : cl.lookup x = some c) (hm : (c, AO.cell (some v)) ∈ σ) (h : Q v ρ σ) (hd : (x == ("__debug__" : Str)) = false) : AW RV C E (eval (.Name x pos) (envX q sc C.L f cd cl)) Q ρ σ :=
  aw_cell hc hm h hk hx hd
theorem xn_glob {v' : Value} (G : C.Gl) (hk : sc.kind = .function) (hx : sc.names.lookup x = some .globalImplicit) (e : nsIn C.K mainGlobals x = some (some v')) (r : RV v v') (h : Q v ρ σ) (hd : (x == ("__debug__" : Str)) = false) : AW RV C E (eval (.Name x pos) (envX q sc C.L f cd cl)) Q ρ σ :=
  aw_glob G e r h rfl hk hx hd
theorem xn_built {v' : Value} (G : C.Gl) (hk : sc.kind = .function) (hx : sc.names.lookup x = some .globalImplicit) (e : nsIn C.K mainGlobals x = some none) (hv : bootBuiltins x = some v') (r : RV v v') (h : Q v ρ σ) (hd : (x == ("__debug__" : Str)) = false) (hn : x ≠ "__name__") : AW RV C E (eval (.Name x pos) (envX q sc C.L f cd cl)) Q ρ σ :=
  aw_builtin G e hv r h hn rfl rfl hk hx hd
theorem xs_local {a : AV} {ρ' : Loc} {Q : Loc → Sto → Prop} (hk : sc.kind = .function) (hx : sc.names.lookup x = some .local) (hρ : rset ρ x a = ρ') (h : Q ρ' σ) : ASt C E (envX q sc C.L f cd cl) x a Q ρ σ :=
  st_local (hρ ▸ h) rfl hk hx
theorem xs_cell {a : AV} {c : Addr} {v₀ : Option AV} {pre post : Sto} {Q : Loc → Sto → Prop} (hk : sc.kind = .function) (hx : sc.names.lookup x = some .cell) (hc : cl.lookup x = some c) (hσ : σ = pre ++ (c, .cell v₀) :: post) (h : Q ρ (pre ++ (c, .cell (some a)) :: post)) : ASt C E (envX q sc C.L f cd cl) x a Q ρ σ :=
  st_cell hσ hc h hk hx
theorem lk_here {v : AV} {r : Loc} : List.lookup x ((x, v) :: r) = some v := by simp
theorem lk_there {y : Str} {v w : AV} {r : Loc} (h : (x == y) = false) (hl : r.lookup x = some v) : List.lookup x ((y, w) :: r) = some v := by rw [List.lookup_cons, h]; exact hl
theorem rs_here {a b : AV} {r : Loc} : rset ((x, b) :: r) x a = (x, a) :: r := by unfold rset; rw [if_pos rfl]
theorem rs_there {y : Str} {a b : AV} {r r' : Loc} (h : (x == y) = false) (hr : rset r x a = r') : rset ((y, b) :: r) x a = (y, b) :: r' := by rw [rset, if_neg (beq_eq_false_iff_ne.mp h), hr]
theorem rs_nil {a : AV} : rset [] x a = [(x, a)] := rfl
section
variable {env : Env}
theorem cw_fn {p : Pos} {f : Value} {e : Expr} {rest : List Expr} (h : AW RVs C E (spliced (backTo p (starEach (e :: rest) env))) (fun as ρ₁ σ₁ => Kp C f σ₁ ∧ ACall C E f as Q ρ₁ σ₁) ρ σ)
    (he : starEach (e :: rest) env = (false, eval e env) :: starEach rest env) (hplain : (backTo p (starEach rest env)).any (·.1) = false) :
    AW RV C E (callWith p f [] (backTo p (starEach (e :: rest) env)) []) Q ρ σ := cw_more (fa := []) .nil h he hplain
theorem cw_fn0 {p : Pos} {f : Value} (h : Kp C f σ ∧ ACall C E f [] Q ρ σ) : AW RV C E (callWith p f [] (backTo p (starEach [] env)) []) Q ρ σ := cw_none (fa := []) .nil h.1 h.2
theorem cw_me {p : Pos} {f v : Value} {a : AV} {e : Expr} {rest : List Expr} (rv : RV a v) (h : AW RVs C E (spliced (backTo p (starEach (e :: rest) env))) (fun as ρ₁ σ₁ => Kp C f σ₁ ∧ ACall C E f (a :: as) Q ρ₁ σ₁) ρ σ)
    (he : starEach (e :: rest) env = (false, eval e env) :: starEach rest env) (hplain : (backTo p (starEach rest env)).any (·.1) = false) :
    AW RV C E (callWith p f [v] (backTo p (starEach (e :: rest) env)) []) Q ρ σ := cw_more (fa := [a]) (.one rv) h he hplain
theorem cw_me0 {p : Pos} {f v : Value} {a : AV} (rv : RV a v) (h : Kp C f σ ∧ ACall C E f [a] Q ρ σ) : AW RV C E (callWith p f [v] (backTo p (starEach [] env)) []) Q ρ σ := cw_none (fa := [a]) (.one rv) h.1 h.2
end
/-- calling a builtin or a type by its value -/
theorem cv_val {w : Value} {P : Value → Prop} (h : P w) : ∀ fv, RV (.val w) fv → P fv := by rintro _ rfl; exact h
theorem cv_ref {a : Addr} {P : Value → Prop} (h : P (.ref a)) : ∀ fv, RV (.ref a) fv → P fv := by rintro _ rfl; exact h
theorem cf_one {a : AV} {P : List Value → Prop} (h : ∀ v, RV a v → P [v]) : ∀ first, RVs [a] first → P first := by
  intro first hf; obtain ⟨v, rfl, r⟩ := RVs.one' (as := []) hf; exact h v r
end
/-- a def of the text, as the top has left it -/
structure Fn (K : Frag) (p : Program) (n : String) (f : Addr) : Prop where
  glob : nsIn K mainGlobals (Str.ofString n) = some (some (.ref f))
  keep : keepIn K (.ref f) = true
  obj : ∃ oc od osl qual pm cdv, K.lookup f = some ⟨oc, od, .func (fnX (Str.ofString n) qual (fnArgs p n) (fnBody p n) (fnScope p n) [] .none .none .none pm none cdv .none), osl⟩ ∧ codeIn K cdv qual = true
/-- a name of the builtins that the text does not bind -/
def Bn (K : Frag) (ns : List String) : Prop := ∀ n ∈ ns, nsIn K mainGlobals (Str.ofString n) = some none
section
variable {C : Cx} {E : Value → Shared → Prop} {ρ : Loc} {σ : Sto} {env : Env} {Q : AV → Loc → Sto → Prop} {n : Nat}
theorem b_fn {p : Program} {nm : String} {f : Addr} {as : List AV} {names : List Str} (O : C.Ok env (n + 1)) (F : Fn C.K p nm f)
    (hb : ∀ qual pm cdv (vs : List Value), vs.length = as.length → bindArgs (fnX (Str.ofString nm) qual (fnArgs p nm) (fnBody p nm) (fnScope p nm) [] .none .none .none pm none cdv .none) ⟨vs, []⟩ = Pure.pure (names.zip vs)) (hnd : names.Nodup) (hloc : ∀ y ∈ names, (fnScope p nm).names.lookup y = some .local)
    (hcell : ∀ x ∈ (fnScope p nm).names, x.2 ≠ .cell) (hco : (fnScope p nm).isCoroutine = false) (hgen : (fnScope p nm).isGenerator = false) (hk : (fnScope p nm).kind = .function)
    (h : ∀ (C' : Cx) qual cdv E', C'.K = C.K → C'.prog = C.prog → C'.w = C.w → C'.s₀ = C.s₀ → C.h₀.StaysIn C'.h₀ → C'.Ok (envX qual (fnScope p nm) C'.L f cdv []) n → AW RF C' E' (execs (fnBody p nm) (envX qual (fnScope p nm) C'.L f cdv [])) (fun fl _ σ' => Q fl.val ρ σ') (names.zip as) σ) :
    ACall C E (.ref f) as Q ρ σ := by
  obtain ⟨oc, od, osl, qual, pm, cdv, ho, hcd⟩ := F.obj
  exact b_def O ho hcd (hb qual pm cdv) hnd hloc hcell hco hgen hk fun g L' Ok' st => h (C.callee env (envX qual (fnScope p nm) L' f cdv []) g L') qual cdv _ rfl rfl rfl rfl st Ok'
end
theorem ASt.perm {C : Cx} {E : Value → Shared → Prop} {ρ : Loc} {σ σ' : Sto} {env : Env} {x : Str} {a : AV} {Q : Loc → Sto → Prop} (h : ASt C E env x a Q ρ σ') (hp : σ.Perm σ') : ASt C E env x a Q ρ σ := fun v rv s hs => h v rv s (hs.perm hp)
section
variable {C : Cx} {E : Value → Shared → Prop} {ρ : Loc} {σ σ' : Sto} {x q : Str} {sc : Scope} {f : Addr} {cd : Value} {cl : List (Str × Addr)} {a : AV}
theorem xs_cellP {c : Addr} {v₀ : Option AV} {Q : Loc → Sto → Prop} (hk : sc.kind = .function) (hx : sc.names.lookup x = some .cell) (hc : cl.lookup x = some c) (hσ : Pick (c, .cell v₀) σ σ') (h : Q ρ ((c, .cell (some a)) :: σ')) : ASt C E (envX q sc C.L f cd cl) x a Q ρ σ :=
  ASt.perm (st_cell (pre := []) rfl hc h hk hx) hσ
/-- the names of a comprehension -/
theorem cs_local {env : Env} {scope : Scope} {c : Addr} {ρ₂ ρ₃ : Loc} {Q : Loc → Sto → Prop} (hk : scope.kind = .function) (hx : (relabel scope env).names.lookup x = some .local) (hσ : Pick (c, .ns ρ₂) σ σ') (hr : rset ρ₂ x a = ρ₃) (h : Q ρ ((c, .ns ρ₃) :: σ')) : ASt C E (compEnvC scope cl c env) x a Q ρ σ :=
  ASt.perm (st_ns (pre := []) rfl (hr ▸ h) rfl hk hx) hσ
theorem cn_local {env : Env} {scope : Scope} {c : Addr} {ρ₂ : Loc} {pos : Pos} {v : AV} {Q : AV → Loc → Sto → Prop} (hk : scope.kind = .function) (hx : (relabel scope env).names.lookup x = some .local) (hm : (c, AO.ns ρ₂) ∈ σ) (hl : ρ₂.lookup x = some v) (h : Q v ρ σ) (hd : (x == ("__debug__" : Str)) = false) : AW RV C E (eval (.Name x pos) (compEnvC scope cl c env)) Q ρ σ :=
  aw_ns hm hl h rfl hk hx hd
theorem cn_cell {env : Env} {scope : Scope} {c c' : Addr} {pos : Pos} {v : AV} {Q : AV → Loc → Sto → Prop} (hk : scope.kind = .function) (hx : (relabel scope env).names.lookup x = some .cell) (hc : cl.lookup x = some c') (hm : (c', AO.cell (some v)) ∈ σ) (h : Q v ρ σ) (hd : (x == ("__debug__" : Str)) = false) : AW RV C E (eval (.Name x pos) (compEnvC scope cl c env)) Q ρ σ :=
  aw_cell hc hm h hk hx hd
theorem cn_free {env : Env} {scope : Scope} {c c' : Addr} {pos : Pos} {v : AV} {Q : AV → Loc → Sto → Prop} (hk : scope.kind = .function) (hx : (relabel scope env).names.lookup x = some .free) (hc : cl.lookup x = some c') (hm : (c', AO.cell (some v)) ∈ σ) (h : Q v ρ σ) (hd : (x == ("__debug__" : Str)) = false) (hcd : (x == ("__classdict__" : Str)) = false) : AW RV C E (eval (.Name x pos) (compEnvC scope cl c env)) Q ρ σ :=
  aw_free hc hm h hk hx hd hcd
theorem cn_glob {env : Env} {scope : Scope} {c : Addr} {pos : Pos} {v : AV} {v' : Value} {Q : AV → Loc → Sto → Prop} (G : C.Gl) (hg : env.globals = mainGlobals) (hk : scope.kind = .function) (hx : (relabel scope env).names.lookup x = some .globalImplicit) (e : nsIn C.K mainGlobals x = some (some v')) (r : RV v v') (h : Q v ρ σ) (hd : (x == ("__debug__" : Str)) = false) : AW RV C E (eval (.Name x pos) (compEnvC scope cl c env)) Q ρ σ :=
  aw_glob G e r h hg hk hx hd
theorem cn_built {env : Env} {scope : Scope} {c : Addr} {pos : Pos} {v : AV} {v' : Value} {Q : AV → Loc → Sto → Prop} (G : C.Gl) (hg : env.globals = mainGlobals) (hb : env.builtins = builtinsNs) (hk : scope.kind = .function) (hx : (relabel scope env).names.lookup x = some .globalImplicit) (e : nsIn C.K mainGlobals x = some none) (hv : bootBuiltins x = some v') (r : RV v v') (h : Q v ρ σ) (hd : (x == ("__debug__" : Str)) = false) (hn : x ≠ "__name__") : AW RV C E (eval (.Name x pos) (compEnvC scope cl c env)) Q ρ σ :=
  aw_builtin G e hv r h hn hg hb hk hx hd
end
def LocSub (ρ' ρ : Loc) : Prop := ∀ p ∈ ρ', ρ.lookup p.1 = some p.2
theorem LocSub.nil {ρ : Loc} : LocSub [] ρ := fun _ h => nomatch h
theorem LocSub.cons {x : Str} {v : AV} {ρ' ρ : Loc} (h : ρ.lookup x = some v) (hr : LocSub ρ' ρ) : LocSub ((x, v) :: ρ') ρ := fun p hp => by
  rcases List.mem_cons.mp hp with e | hp
  · rw [e]; exact h
  · exact hr p hp
theorem LocSub.sub {ρ' ρ : Loc} (h : LocSub ρ' ρ) : ∀ x v, ρ'.lookup x = some v → ρ.lookup x = some v := fun x v e => h (x, v) (lk_mem e)
section
variable {C : Cx} {E : Value → Shared → Prop} {ρ ρ' : Loc} {σ σ' : Sto} {env : Env} {pos : Pos} {QF : AF → Loc → Sto → Prop} {Q : AV → Loc → Sto → Prop} {target test : Expr} {body : List Stmt} {I : Addr}
theorem AFor.to (h : AFor C E target I body env QF ρ' σ') (hs : SubS σ' σ) (hl : LocSub ρ' ρ) : AFor C E target I body env QF ρ σ := (h.subS hs).loc hl.sub
theorem AWhile.to (h : AWhile C E test body env QF ρ' σ') (hs : SubS σ' σ) (hl : LocSub ρ' ρ) : AWhile C E test body env QF ρ σ := (h.subS hs).loc hl.sub
theorem AW.to {α β : Type} {R : β → α → Prop} {t : Sem α} {Q : β → Loc → Sto → Prop} (h : AW R C E t Q ρ' σ') (hs : SubS σ' σ) (hl : LocSub ρ' ρ) : AW R C E t Q ρ σ := (h.subS hs).loc hl.sub
theorem ex_expr {e : Expr} (h : AW RV C E (eval e env) (fun v ρ₁ σ₁ => match v with | .none => QF .next ρ₁ σ₁ | _ => False) ρ σ) (hi : interactive env = false) (hsw : swapsWith e none pos.line env = Pure.pure false) : AW RF C E (exec (.Expr e pos) env) QF ρ σ :=
  fun _ hs => wpAny_Expr (h.lift1 hs fun v a _ _ _ rv hs₁ h₁ => by
    cases a with
    | none => cases rv; exact ⟨.next, _, _, rfl, hs₁, h₁⟩
    | _ => exact h₁.elim) hi hsw
theorem aw_strx {x : Str} {l : List Nat} {k : Nat} (e : x = tx l) (h : Q (.str (tx l)) ρ σ) : AW RV C E (eval (.Constant (.str x) k pos) env) Q ρ σ := aw_str (e ▸ h)
theorem str_tx (x : Str) : x = tx x.cps.toList := by simp [tx]
-- texts by their signs
theorem t_starts {l p : List Nat} (h : Q (.bool (decide (l.take p.length = p))) ρ σ) : ACall C E (.builtin "str.startswith") [.str (tx l), .str (tx p)] Q ρ σ := b_startswith (by rw [tx_starts]; exact h)
theorem t_ends {l p : List Nat} (h : Q (.bool (decide (p.length ≤ l.length ∧ l.drop (l.length - p.length) = p))) ρ σ) : ACall C E (.builtin "str.endswith") [.str (tx l), .str (tx p)] Q ρ σ := b_endswith (by rw [tx_ends]; exact h)
theorem t_len {l : List Nat} (hl : l.length ≤ sizeLine) (h : Q (.int l.length) ρ σ) : ACall C E (.builtin "len") [.str (tx l)] Q ρ σ := b_len_str (by simpa using hl) (by simpa using h)
theorem t_add {a b : List Nat} (hz : a.length + b.length ≤ sizeLine) (h : Q (.str (tx (a ++ b))) ρ σ) : Op2 C E .Add (.str (tx a)) (.str (tx b)) Q ρ σ := o_add_str (by simpa using hz) (by rw [tx_app]; exact h)
theorem t_mul1 {c : Nat} {n : Int} (h0 : -1000000 ≤ n) (h1 : n ≤ 1000000) (h : Q (.str (tx (List.replicate n.toNat c))) ρ σ) : Op2 C E .Mult (.str (tx [c])) (.int n) Q ρ σ :=
  o_mul_str (mulOk_tx (by simp; omega) (by simp) h1 h0) (by rw [tx_mul1]; exact h)
theorem t_eq {a b : List Nat} (h : Q (.bool (decide (a = b))) ρ σ) : Cmp2 C E .Eq (.str (tx a)) (.str (tx b)) Q ρ σ := c_eq_str (by rw [tx_beq]; exact h)
theorem t_ne {a b : List Nat} (h : Q (.bool (decide (a ≠ b))) ρ σ) : Cmp2 C E .NotEq (.str (tx a)) (.str (tx b)) Q ρ σ := c_ne_str (by rw [tx_bne]; exact h)
theorem t_item {value slice : Expr} {l : List Nat} {i : Int} (h0 : 0 ≤ i) (h1 : i < l.length) (hl : l.length ≤ sizeLine) (h : Q (.str (tx [l.getD i.toNat 0])) ρ σ)
    (hsl : ∀ t u, subscripted slice false (.str (tx l) t) (.int i u) = operate [.str (tx l) t, .int i u] (getItem (.str (tx l) t) (.int i u)))
    (ht : ∀ t r, letTemporaryGo value (.str (tx l) t) r = Pure.pure ()) : A2 C E (subscriptTail value slice) (.str (tx l)) (.int i) Q ρ σ :=
  s_item_str (by simp; omega) (by simpa using h1) (by simpa using hl) (by rw [tx_item l h0 h1]; exact h) hsl ht
section
variable {value slice : Expr} {l : List Nat} {i j : Int}
  (hl : l.length ≤ sizeLine) (hsl : ∀ t r, subscripted slice false (.str (tx l) t) (.ref r) = operate [.ref r, .str (tx l) t] (getItem (.str (tx l) t) (.ref r))) (ht : ∀ t r, letTemporaryGo value (.str (tx l) t) r = Pure.pure ())
include hl hsl ht
theorem t_from (h0 : 0 ≤ i) (h : Q (.str (tx (l.drop i.toNat))) ρ σ) : ASl C E value slice (.str (tx l)) (.int i) .none Q ρ σ := sl_str_sn (by simpa using hl) (by rw [tx_from l h0]; exact h) hsl ht
theorem t_to (h0 : 0 ≤ i) (h : Q (.str (tx (l.take i.toNat))) ρ σ) : ASl C E value slice (.str (tx l)) .none (.int i) Q ρ σ := sl_str_ns (by simpa using hl) (by rw [tx_to l h0]; exact h) hsl ht
theorem t_to_neg (h0 : i < 0) (h : Q (.str (tx (l.take (l.length + i).toNat))) ρ σ) : ASl C E value slice (.str (tx l)) .none (.int i) Q ρ σ := sl_str_ns (by simpa using hl) (by rw [tx_to_neg l h0]; exact h) hsl ht
theorem t_from_neg (h0 : i < 0) (h : Q (.str (tx (l.drop (l.length + i).toNat))) ρ σ) : ASl C E value slice (.str (tx l)) (.int i) .none Q ρ σ := sl_str_sn (by simpa using hl) (by rw [tx_from_neg l h0]; exact h) hsl ht
theorem t_between (h0 : 0 ≤ i) (h1 : 0 ≤ j) (h : Q (.str (tx ((l.take j.toNat).drop i.toNat))) ρ σ) : ASl C E value slice (.str (tx l)) (.int i) (.int j) Q ρ σ := sl_str_ss (by simpa using hl) (by rw [tx_between l h0 h1]; exact h) hsl ht
end
end
end Mine
namespace Mine
open PySem PySem.W PySem.Spec PySem.Calls PyProof.Rows
def pySl {α : Type} (xs : List α) (a b : Option Int) : List α := (xs.drop (cLo a xs.length)).take (cHi b xs.length - cLo a xs.length)
theorem slicePick_eq (vs : List Value) (a b : Option Int) : slicePick vs.toArray a b none = (pySl vs a b).toArray := by
  have e1 : ∀ i : Int, (if (1 : Int) > 0 then max 0 (min (if i < 0 then i + (vs.length : Int) else i) vs.length) else max (-1) (min (if i < 0 then i + (vs.length : Int) else i) (vs.length - 1))) = (cAt i vs.length : Int) := by
    intro i
    simp only [cAt, show (1 : Int) > 0 from by decide, if_true]; omega
  have hb : sliceBounds a b none vs.length = ((cLo a vs.length : Int), (cHi b vs.length : Int), 1) := by
    unfold sliceBounds
    simp only [Option.getD_none]
    cases a <;> cases b <;> simp only [e1, cLo, cHi] <;> rfl
  unfold slicePick
  rw [List.size_toArray, hb]
  show ((sliceRange (cLo a vs.length : Int) (cHi b vs.length : Int) 1).filterMap (vs.toArray[·]?)).toArray = _
  rw [sliceRange_one, pick_run]
  rfl
theorem RVs.pySl {as vs} (h : RVs as vs) (a b : Option Int) : RVs (pySl as a b) (pySl vs a b) := by
  unfold Mine.pySl
  rw [h.length]
  exact (h.drop _).take _
theorem pySl_length_le {α : Type} (xs : List α) (a b : Option Int) : (pySl xs a b).length ≤ xs.length := by
  unfold pySl
  simp
  omega
def optI : AV → Option (Option Int)
  | .none => some none
  | .int i => some (some i)
  | _ => none
theorem isPart_of {a : AV} {v : Value} {o : Option Int} (h : optI a = some o) (r : RV a v) : IsPart v o := by
  cases a with
  | none => cases h; cases r; exact .none
  | int i => cases h; obtain ⟨t, rfl⟩ := r; exact .int _ _
  | _ => cases h
section
variable {C : Cx} {E : Value → Shared → Prop} {ρ : Loc} {σ : Sto} {env : Env} {pos : Pos} {Q : AV → Loc → Sto → Prop} {value slice : Expr} {a : Addr} {xs : List AV}
theorem sl_listG {lo hi : AV} {l u : Option Int} (hv : ∀ s, Rel C ρ σ s → ∃ vs, RVs xs vs ∧ s.heap.IsList a vs.toArray) (hx : xs.length ≤ sizeLine) (hl : optI lo = some l) (hu : optI hi = some u) (h : ∀ r, Q (.ref r) ρ ((r, .list (pySl xs l u)) :: σ))
    (hsl : ∀ r, subscripted slice false (.ref a) (.ref r) = operate [.ref r, .ref a] (getItem (.ref a) (.ref r))) : ASl C E value slice (.ref a) lo hi Q ρ σ := by
  rintro _ vl vu s rfl rl ru hs
  have hs₁ := hs.push (o := { cls := .type "slice", data := .fields #[vl, vu, .none] }) (ao := .raw _) rfl rfl s.toks
  have hs₂ := hs₁.subS (SubS.drop (e := _) SubS.refl)
  obtain ⟨vs, rv, hl'⟩ := hv _ hs₂
  refine tail_any (T := "list") (Heap.IsList.typeIs hl') list_getitem_lookup (wpAny_getItem_list_slice hl' (Heap.IsSliceOf.new ..) (isPart_of hl rl) (isPart_of hu ru) .none (by simp) ?_ (by rw [List.size_toArray, rv.length]; exact hx)) (hsl _)
  refine ⟨.ref _, _, _, rfl, hs₂.push (ao := .list (pySl xs l u)) ⟨pySl vs l u, 0, rv.pySl l u, ?_⟩ rfl s.toks, h _⟩
  rw [slicePick_eq]
theorem sl_list {lo hi : AV} {l u : Option Int} (hm : (a, AO.list xs) ∈ σ) (hx : xs.length ≤ sizeLine) (hl : optI lo = some l) (hu : optI hi = some u) (h : ∀ r, Q (.ref r) ρ ((r, .list (pySl xs l u)) :: σ))
    (hsl : ∀ r, subscripted slice false (.ref a) (.ref r) = operate [.ref r, .ref a] (getItem (.ref a) (.ref r))) : ASl C E value slice (.ref a) lo hi Q ρ σ :=
  sl_listG (fun _ hs => hs.isList hm) hx hl hu h hsl
theorem sl_base {lo hi : AV} {l u : Option Int} (hm : BaseL C a xs) (hx : xs.length ≤ sizeLine) (hl : optI lo = some l) (hu : optI hi = some u) (h : ∀ r, Q (.ref r) ρ ((r, .list (pySl xs l u)) :: σ))
    (hsl : ∀ r, subscripted slice false (.ref a) (.ref r) = operate [.ref r, .ref a] (getItem (.ref a) (.ref r))) : ASl C E value slice (.ref a) lo hi Q ρ σ :=
  sl_listG (fun _ hs => hs.baseL hm) hx hl hu h hsl
theorem s_listG {i : Int} {v : AV} (hv : ∀ s, Rel C ρ σ s → ∃ vs, RVs xs vs ∧ s.heap.IsList a vs.toArray) (hx : xs.length ≤ sizeLine) (h0 : 0 ≤ i) (hi : xs[i.toNat]? = some v) (h : Q v ρ σ)
    (hsl : ∀ u, subscripted slice false (.ref a) (.int i u) = operate [.ref a, .int i u] (getItem (.ref a) (.int i u))) : A2 C E (subscriptTail value slice) (.ref a) (.int i) Q ρ σ := by
  rintro _ _ rfl ⟨u, rfl⟩ s hs
  obtain ⟨vs, rv, hl⟩ := hv s hs
  obtain ⟨w, e, r⟩ := rv.get hi
  have hlt : i.toNat < xs.length := by
    have := List.getElem?_eq_some_iff.mp hi
    exact this.1
  rw [sizeLine_eq] at hx
  exact tail_any (T := "list") hl.typeIs list_getitem_lookup (wpAny_getItem_list hl h0 (by omega) (by simpa using e) ⟨v, _, _, r, hs, h⟩) (hsl _)
theorem s_list {i : Int} {v : AV} (hm : (a, AO.list xs) ∈ σ) (hx : xs.length ≤ sizeLine) (h0 : 0 ≤ i) (hi : xs[i.toNat]? = some v) (h : Q v ρ σ)
    (hsl : ∀ u, subscripted slice false (.ref a) (.int i u) = operate [.ref a, .int i u] (getItem (.ref a) (.int i u))) : A2 C E (subscriptTail value slice) (.ref a) (.int i) Q ρ σ :=
  s_listG (fun _ hs => hs.isList hm) hx h0 hi h hsl
theorem s_base {i : Int} {v : AV} (hm : BaseL C a xs) (hx : xs.length ≤ sizeLine) (h0 : 0 ≤ i) (hi : xs[i.toNat]? = some v) (h : Q v ρ σ)
    (hsl : ∀ u, subscripted slice false (.ref a) (.int i u) = operate [.ref a, .int i u] (getItem (.ref a) (.int i u))) : A2 C E (subscriptTail value slice) (.ref a) (.int i) Q ρ σ :=
  s_listG (fun _ hs => hs.baseL hm) hx h0 hi h hsl
theorem s_list_neg {i : Int} {v : AV} (hm : (a, AO.list xs) ∈ σ) (hx : xs.length ≤ sizeLine) (h0 : i < 0) (h1 : -(xs.length : Int) ≤ i) (hi : xs[(i + xs.length).toNat]? = some v) (h : Q v ρ σ)
    (hsl : ∀ u, subscripted slice false (.ref a) (.int i u) = operate [.ref a, .int i u] (getItem (.ref a) (.int i u))) : A2 C E (subscriptTail value slice) (.ref a) (.int i) Q ρ σ := by
  rintro _ _ rfl ⟨u, rfl⟩ s hs
  obtain ⟨vs, rv, hl⟩ := hs.isList hm
  obtain ⟨w, e, r⟩ := rv.get hi
  rw [sizeLine_eq] at hx
  exact tail_any (T := "list") hl.typeIs list_getitem_lookup (wpAny_getItem_list_neg hl h0 (by simp [rv.length]; omega) (by omega) (by simpa [rv.length] using e) ⟨v, _, _, r, hs, h⟩) (hsl _)
theorem Rel.isTup {s : Shared} (hs : Rel C ρ σ s) (hm : (a, AO.tuple xs) ∈ σ) : ∃ vs, RVs xs vs ∧ IsTup s.heap a vs.toArray := by
  obtain ⟨o, e, _, _, vs, n, r, rfl⟩ := hs.led _ hm
  exact ⟨vs, r, _, e, rfl, n, rfl⟩
theorem s_tuple {i : Int} {v : AV} (hm : (a, AO.tuple xs) ∈ σ) (hx : xs.length ≤ sizeLine) (h0 : 0 ≤ i) (hi : xs[i.toNat]? = some v) (h : Q v ρ σ)
    (hsl : ∀ u, subscripted slice false (.ref a) (.int i u) = operate [.ref a, .int i u] (getItem (.ref a) (.int i u))) : A2 C E (subscriptTail value slice) (.ref a) (.int i) Q ρ σ := by
  rintro _ _ rfl ⟨u, rfl⟩ s hs
  obtain ⟨vs, rv, hl⟩ := hs.isTup hm
  obtain ⟨w, e, r⟩ := rv.get hi
  have hlt : i.toNat < xs.length := (List.getElem?_eq_some_iff.mp hi).1
  rw [sizeLine_eq] at hx
  refine tail_any (T := "tuple") hl.typeIs slot_tuple_getitem.lookup (getItem_tuple hl (by omega) (by omega) (j := i.toNat) ?_ (by simpa using e) ⟨v, _, _, r, hs, h⟩) (hsl _)
  unfold seqIndex?
  simp [rv.length]
  omega
end
end Mine
namespace Mine
open PySem PySem.W PySem.Spec PySem.Calls PyProof.Rows
theorem bb_len : bootBuiltins (Str.ofString "len") = some (.builtin "len") := by kernel_rfl
theorem bb_abs : bootBuiltins (Str.ofString "abs") = some (.builtin "abs") := by kernel_rfl
theorem bb_max : bootBuiltins (Str.ofString "max") = some (.builtin "max") := by kernel_rfl
theorem bb_min : bootBuiltins (Str.ofString "min") = some (.builtin "min") := by kernel_rfl
theorem bb_sum : bootBuiltins (Str.ofString "sum") = some (.builtin "sum") := by kernel_rfl
theorem bb_chr : bootBuiltins (Str.ofString "chr") = some (.builtin "chr") := by kernel_rfl
theorem bb_sorted : bootBuiltins (Str.ofString "sorted") = some (.builtin "sorted") := by kernel_rfl
theorem bb_divmod : bootBuiltins (Str.ofString "divmod") = some (.builtin "divmod") := by kernel_rfl
theorem bb_isinstance : bootBuiltins (Str.ofString "isinstance") = some (.builtin "isinstance") := by kernel_rfl
theorem bb_range : bootBuiltins (Str.ofString "range") = some (.type "range") := by kernel_rfl
theorem bb_str : bootBuiltins (Str.ofString "str") = some (.type "str") := by kernel_rfl
theorem bb_int : bootBuiltins (Str.ofString "int") = some (.type "int") := by kernel_rfl
theorem bb_bool : bootBuiltins (Str.ofString "bool") = some (.type "bool") := by kernel_rfl
end Mine
namespace Mine
open PySem PySem.W PySem.Spec PySem.Calls PyProof.Rows
theorem LocSub.refl {ρ : Loc} (hn : (ρ.map (·.1)).Nodup) : LocSub ρ ρ := fun p hp => lk_nd hn hp
/-- a smaller end -/
def Shr {β : Type} (Q : β → Loc → Sto → Prop) : β → Loc → Sto → Prop := fun b ρ' σ' => ∃ ρ'' σ'', SubS σ'' σ' ∧ LocSub ρ'' ρ' ∧ Q b ρ'' σ''
section
variable {C : Cx} {E : Value → Shared → Prop} {ρ : Loc} {σ : Sto} {env : Env} {pos : Pos} {QF : AF → Loc → Sto → Prop} {target test : Expr} {body : List Stmt} {I : Addr}
theorem AW.shrink {α β : Type} {R : β → α → Prop} {t : Sem α} {Q : β → Loc → Sto → Prop} (h : AW R C E t (Shr Q) ρ σ) : AW R C E t Q ρ σ :=
  fun s hs => wpAny_mono (h s hs) (fun a s' ⟨b, ρ', σ', r, x, ρ'', σ'', h1, h2, q⟩ => ⟨b, ρ'', σ'', r, (x.subS h1).loc h2.sub, q⟩) fun _ _ e => e
/-- a statement, by what holds behind it -/
theorem ex_seq {st : Stmt} {rest : List Stmt} (Mid : Loc → Sto → Prop) (h : AW RF C E (exec st env) (fun f ρ₁ σ₁ => match f with | .next => ∃ ρ₂ σ₂, Mid ρ₂ σ₂ ∧ SubS σ₂ σ₁ ∧ LocSub ρ₂ ρ₁ | _ => False) ρ σ)
    (k : ∀ ρ₂ σ₂, Mid ρ₂ σ₂ → AW RF C E (execs rest env) QF ρ₂ σ₂) : AW RF C E (execs (st :: rest) env) QF ρ σ := by
  refine ex_cons (h.mono fun f ρ₁ σ₁ hf => ?_)
  cases f with
  | next => obtain ⟨ρ₂, σ₂, hm, hs, hl⟩ := hf; exact (k ρ₂ σ₂ hm).to hs hl
  | _ => exact hf.elim
/-- a source of items -/
def Src (C : Cx) (a : Addr) (xs : List AV) (σ : Sto) : Prop := (a, AO.list xs) ∈ σ ∨ BaseL C a xs
theorem Src.nx {a : Addr} {xs : List AV} {i : Nat} {v : AV} (h : Src C a xs σ) (hv : xs[i]? = some v) : NxI C I (literO a i) σ v (literO a (i + 1)) := by
  rcases h with h | h
  · exact nx_list h hv
  · exact nx_base h hv
theorem Src.nxe {a : Addr} {xs : List AV} {i : Nat} (hh : C.A.handled = none) (h : Src C a xs σ) (hv : xs.length ≤ i) : NxE C I (literO a i) σ := by
  rcases h with h | h
  · exact nx_list_end hh h hv
  · exact nx_base_end hh h hv
/-- an iterator's states and items -/
structure Iter (C : Cx) (it : Nat → AO) (xs : List AV) (ok : Sto → Prop) : Prop where
  item : ∀ I σ i v, ok σ → xs[i]? = some v → NxI C I (it i) σ v (it (i + 1))
  fin : ∀ I σ, ok σ → NxE C I (it xs.length) σ
  self : ∀ I i, NxS C I (it i)
  more : ∀ σ e, ok σ → ok (e :: σ)
theorem iter_list {a : Addr} {xs : List AV} (hh : C.A.handled = none) : Iter C (literO a) xs (Src C a xs) where
  item := fun _ _ _ _ h hv => h.nx hv
  fin := fun _ _ h => h.nxe hh (Nat.le_refl _)
  self := fun _ _ => ns_list
  more := fun _ _ h => h.imp (.tail _) id
/-- the ints of a range -/
def rng (x : Int) (n : Nat) : List AV := (List.range n).map fun i => .int (x + (i : Nat))
theorem rng_length (x : Int) (n : Nat) : (rng x n).length = n := by simp [rng]
theorem iter_range {x : Int} {n : Nat} (hh : C.A.handled = none) : Iter C (fun i => riterO (x + (i : Nat)) ((n : Int) - (i : Nat))) (rng x n) (fun _ => True) where
  item := fun I σ i v _ hv => by
    have hlt : i < n := by have := (List.getElem?_eq_some_iff.mp hv).1; simpa [rng] using this
    have hv' : v = .int (x + (i : Nat)) := by simp [rng, hlt] at hv; exact hv.symm
    subst hv'
    have e1 : x + ((i + 1 : Nat) : Int) = x + (i : Nat) + 1 := by omega
    have e2 : (n : Int) - ((i + 1 : Nat) : Int) = (n : Int) - (i : Nat) - 1 := by omega
    show NxI C I (riterO (x + (i : Nat)) ((n : Int) - (i : Nat))) σ _ (riterO (x + ((i + 1 : Nat) : Int)) ((n : Int) - ((i + 1 : Nat) : Int)))
    rw [e1, e2]
    exact nx_range (by omega)
  fin := fun I σ _ => nx_range_end hh (by rw [rng_length]; omega)
  self := fun _ _ => ns_range
  more := fun _ _ h => h
theorem for_ind {it : Nat → AO} {ok : Sto → Prop} {xs : List AV} (W : Iter C it xs ok) (J : List AV → List AV → Loc → Sto → Prop)
    (src : ∀ d r ρ σ, J d r ρ σ → ok σ)
    (step : ∀ d v r ρ σ, xs = d ++ v :: r → J d (v :: r) ρ σ → AAs C (LE C env E) env target I v (fun ρ₁ σ₁ => AW RF C (LE C env E) (execs body env) (Turn QF (fun ρ₂ σ₂ => ∃ ρ₃ σ₃, J (d ++ [v]) r ρ₃ σ₃ ∧ SubS ((I, it (d.length + 1)) :: σ₃) σ₂ ∧ LocSub ρ₃ ρ₂)) ρ₁ σ₁) ρ ((I, it (d.length + 1)) :: σ))
    (fin : ∀ ρ σ, J xs [] ρ σ → QF .next ρ σ) (h0 : J [] xs ρ σ) : AFor C E target I body env QF ρ ((I, it 0) :: σ) := by
  have key : ∀ (r d : List AV) (ρ : Loc) (σ : Sto), xs = d ++ r → J d r ρ σ → AFor C E target I body env QF ρ ((I, it d.length) :: σ) := by
    intro r
    induction r with
    | nil =>
      intro d ρ σ e hJ
      rw [List.append_nil] at e
      subst e
      exact for_end Pick.head (W.fin _ _ (src _ _ _ _ hJ)) (fin _ _ hJ)
    | cons v r ih =>
      intro d ρ σ e hJ
      refine for_item Pick.head (W.item _ _ _ v (src _ _ _ _ hJ) (by rw [e]; simp)) ?_
      intro vv rv s hs
      refine wpAny_mono (step d v r ρ σ e hJ vv rv s hs) (fun _ s' ⟨u, ρ₁, σ₁, eu, hs₁, h₁⟩ => ⟨u, ρ₁, σ₁, eu, hs₁, h₁.mono fun f ρ₂ σ₂ ht => ?_⟩) fun _ _ e => e
      have go : (∃ ρ₃ σ₃, J (d ++ [v]) r ρ₃ σ₃ ∧ SubS ((I, it (d.length + 1)) :: σ₃) σ₂ ∧ LocSub ρ₃ ρ₂) → AFor C E target I body env QF ρ₂ σ₂ := by
        rintro ⟨ρ₃, σ₃, hJ', hs', hl'⟩
        have := ih (d ++ [v]) ρ₃ σ₃ (by rw [e]; simp) hJ'
        rw [List.length_append, List.length_singleton] at this
        exact AFor.to this hs' hl'
      cases f with
      | next => exact go ht
      | cont => exact go ht
      | brk => exact ht
      | ret w => exact ht
  exact key xs [] ρ σ rfl h0
theorem while_ind (J : Nat → Loc → Sto → Prop) (n : Nat)
    (step : ∀ n ρ σ, J n ρ σ → AW (Eq (α := Bool)) C (LE C env E) (isTrue test env (eval test env)) (fun b ρ₁ σ₁ => if b = true then AW RF C (LE C env E) (execs body env) (Turn QF (fun ρ₂ σ₂ => ∃ m ρ₃ σ₃, m < n ∧ J m ρ₃ σ₃ ∧ SubS σ₃ σ₂ ∧ LocSub ρ₃ ρ₂)) ρ₁ σ₁ else QF .next ρ₁ σ₁) ρ σ)
    (h0 : J n ρ σ) : AWhile C E test body env QF ρ σ := by
  induction n using Nat.strongRecOn generalizing ρ σ with
  | ind n ih =>
    refine wh_turn ((step n ρ σ h0).mono fun b ρ₁ σ₁ h₁ => ?_)
    cases b with
    | false => simpa using h₁
    | true =>
      simp only [if_true] at h₁ ⊢
      refine h₁.mono fun f ρ₂ σ₂ ht => ?_
      have go : (∃ m ρ₃ σ₃, m < n ∧ J m ρ₃ σ₃ ∧ SubS σ₃ σ₂ ∧ LocSub ρ₃ ρ₂) → AWhile C E test body env QF ρ₂ σ₂ := by
        rintro ⟨m, ρ₃, σ₃, hm, hJ', hs', hl'⟩
        exact AWhile.to (ih m hm hJ') hs' hl'
      cases f with
      | next => exact go ht
      | cont => exact go ht
      | brk => exact ht
      | ret w => exact ht
end
section
variable {C : Cx} {E : Value → Shared → Prop} {ρ : Loc} {σ : Sto} {env cenv : Env} {pos : Pos} {elt target iter : Expr} {ifs : List Expr} {scope : Scope} {I D c : Addr} {QC : Loc → Sto → Prop}
theorem Rel.nsNil {s : Shared} {e : Addr × AO} {ρ₂ : Loc} (h : Rel C ρ (e :: (c, .ns ρ₂) :: σ) s) : Rel C ρ (e :: (c, .ns []) :: σ) s := by
  refine ⟨h.shape, h.fr, fun p hp => ?_, by simpa using h.nd⟩
  rcases List.mem_cons.mp hp with rfl | hp
  · exact h.led _ (.head _)
  · rcases List.mem_cons.mp hp with rfl | hp
    · obtain ⟨o, h1, h2, h3, m, hn, _⟩ := h.led (c, .ns ρ₂) (.tail _ (.head _))
      exact ⟨o, h1, h2, h3, m, hn, fun x v e => by simp at e⟩
    · exact h.led _ (.tail _ (.tail _ hp))
/-- a turn of a comprehension: the element, or the next -/
def CStep (C : Cx) (elt target iter : Expr) (ifs : List Expr) (cenv : Env) (I : Addr) (v : AV) (yes : AV → Loc → Sto → Prop) (no : Loc → Sto → Prop) (ρ : Loc) (σ : Sto) : Prop :=
  ∀ E', AAs C E' cenv target I v (fun ρ₁ σ₁ => ATests C E' ifs cenv (fun ok ρ₂ σ₂ => if ok = true then AW RV C E' (eval elt cenv) yes ρ₂ σ₂ else no ρ₂ σ₂) ρ₁ σ₁) ρ σ
/-- items done, items to come, the list so far, the store beside iterator, list and names -/
theorem comp_ind {it : Nat → AO} {ok : Sto → Prop} {xs : List AV} (W : Iter C it xs ok) (J : List AV → List AV → List AV → Sto → Prop) (hx : xs.length ≤ sizeLine)
    (src : ∀ d r acc σ, J d r acc σ → ok σ) (hlen : ∀ d r acc σ, J d r acc σ → acc.length ≤ d.length)
    (step : ∀ d v r acc σ, xs = d ++ v :: r → J d (v :: r) acc σ → CStep C elt target iter ifs cenv I v
      (fun y ρ₁ σ₁ => ∃ ρ₃ σ₃, J (d ++ [v]) r (acc ++ [y]) σ₃ ∧ SubS ((D, .list acc) :: (c, .ns ρ₃) :: (I, it (d.length + 1)) :: σ₃) σ₁ ∧ LocSub ρ ρ₁)
      (fun ρ₁ σ₁ => ∃ ρ₃ σ₃, J (d ++ [v]) r acc σ₃ ∧ SubS ((D, .list acc) :: (c, .ns ρ₃) :: (I, it (d.length + 1)) :: σ₃) σ₁ ∧ LocSub ρ ρ₁) ρ ((I, it (d.length + 1)) :: (c, .ns []) :: (D, .list acc) :: σ))
    (fin : ∀ acc ρ₂ σ, J xs [] acc σ → QC ρ ((c, .ns ρ₂) :: (D, .list acc) :: σ)) (h0 : J [] xs [] σ) :
    AComp C elt target iter ifs scope pos I D cenv QC ρ ((c, .ns []) :: (D, .list []) :: (I, it 0) :: σ) := by
  have key : ∀ (r d acc : List AV) (ρ₂ : Loc) (σ : Sto), xs = d ++ r → J d r acc σ → AComp C elt target iter ifs scope pos I D cenv QC ρ ((I, it d.length) :: (c, .ns ρ₂) :: (D, .list acc) :: σ) := by
    intro r
    induction r with
    | nil =>
      intro d acc ρ₂ σ e hJ
      rw [List.append_nil] at e
      subst e
      exact cp_end Pick.head (W.fin _ _ (W.more _ _ (W.more _ _ (src _ _ _ _ hJ)))) (fin _ _ _ hJ)
    | cons v r ih =>
      intro d acc ρ₂ σ e hJ
      refine cp_item Pick.head (W.item _ _ _ v (W.more _ _ (W.more _ _ (src _ _ _ _ hJ))) (by rw [e]; simp)) fun E' vv rv s hs => ?_
      have hl := hlen _ _ _ _ hJ
      have hd : d.length ≤ sizeLine := by have := congrArg List.length e; simp at this; omega
      refine wpAny_mono (step d v r acc σ e hJ E' vv rv s hs.nsNil) (fun _ s' ⟨u, ρ₁, σ₁, eu, hs₁, h₁⟩ => ⟨u, ρ₁, σ₁, eu, hs₁, ?_⟩) fun _ _ e => e
      refine AW.mono h₁ fun ok ρ₄ σ₄ h₄ => ?_
      cases ok with
      | false =>
        simp only [Bool.false_eq_true, if_false] at h₄ ⊢
        obtain ⟨ρ₃, σ₃, hJ', hsub, hloc⟩ := h₄
        have := ih (d ++ [v]) acc ρ₃ σ₃ (by rw [e]; simp) hJ'
        rw [List.length_append, List.length_singleton] at this
        exact fun s RR hr k => this.subS (SubS.trans ⟨[], by rw [List.append_nil]; exact ((List.Perm.swap _ _ _).trans ((List.Perm.swap _ _ _).cons _)).trans ((List.Perm.swap _ _ _))⟩ hsub) s RR (hr.loc hloc.sub) k
      | true =>
        simp only [if_true] at h₄ ⊢
        refine AW.mono h₄ fun y ρ₅ σ₅ h₅ => ?_
        obtain ⟨ρ₃, σ₃, hJ', ⟨l, hperm⟩, hloc⟩ := h₅
        refine ⟨acc, (c, .ns ρ₃) :: (I, it (d.length + 1)) :: σ₃ ++ l, hperm, by omega, ?_⟩
        have := ih (d ++ [v]) (acc ++ [y]) ρ₃ σ₃ (by rw [e]; simp) hJ'
        rw [List.length_append, List.length_singleton] at this
        refine fun s RR hr k => this.subS ⟨l, ?_⟩ s RR (hr.loc hloc.sub) k
        have e2 : ((D, AO.list (acc ++ [y])) :: ((c, .ns ρ₃) :: (I, it (d.length + 1)) :: σ₃ ++ l)) = ((D, AO.list (acc ++ [y])) :: (c, .ns ρ₃) :: (I, it (d.length + 1)) :: (σ₃ ++ l)) := rfl
        rw [e2]
        exact ((List.Perm.swap _ _ _).trans ((List.Perm.swap _ _ _).cons _)).trans ((List.Perm.swap _ _ _))
  exact (key xs [] [] [] σ rfl h0).subS ⟨[], by rw [List.append_nil]; exact ((List.Perm.swap _ _ _).cons _).trans (List.Perm.swap _ _ _)⟩
end
end Mine
namespace Mine
open PySem PySem.W PySem.Spec PySem.Calls PyProof.Rows
section
variable {C : Cx} {E : Value → Shared → Prop} {ρ : Loc} {σ : Sto} {Q : AV → Loc → Sto → Prop}
theorem o_modP {a b : Int} (hb : 0 < b) (h : Q (.int (a % b)) ρ σ) : Op2 C E .Mod (.int a) (.int b) Q ρ σ :=
  o_mod_int (by omega) (by rw [Int.fmod_eq_emod_of_nonneg _ (by omega)]; exact h)
theorem o_divP {a b : Int} (hb : 0 < b) (hp : b.natAbs < 2 ^ 64) (h : Q (.int (a / b)) ρ σ) : Op2 C E .FloorDiv (.int a) (.int b) Q ρ σ :=
  o_div_int (by omega) (PyProof.noPylong_of_log2 (by
    have := (Nat.log2_lt (by omega) (k := 64)).mpr hp
    omega)) (by rw [Int.fdiv_eq_ediv_of_nonneg _ (by omega)]; exact h)
end
theorem mem_ints {ns : List Int} {d : List AV} {v : AV} {r : List AV} (h : ns.map AV.int = d ++ v :: r) : ∃ x, v = .int x := by
  have : v ∈ ns.map AV.int := by rw [h]; simp
  obtain ⟨x, _, e⟩ := List.mem_map.mp this
  exact ⟨x, e.symm⟩
section
variable {C : Cx} {E : Value → Shared → Prop} {ρ : Loc} {σ : Sto} {pos : Pos} {x q : Str} {sc : Scope} {f : Addr} {cd : Value} {cl : List (Str × Addr)} {Q : AV → Loc → Sto → Prop} {QF : AF → Loc → Sto → Prop} {env : Env}
theorem xn_globR {a : Addr} (G : C.Gl) (hk : sc.kind = .function) (hx : sc.names.lookup x = some .globalImplicit) (e : nsIn C.K mainGlobals x = some (some (.ref a))) (h : Q (.ref a) ρ σ) (hd : (x == ("__debug__" : Str)) = false) : AW RV C E (eval (.Name x pos) (envX q sc C.L f cd cl)) Q ρ σ :=
  xn_glob G hk hx e (v := .ref a) rfl h hd
theorem xn_builtV {v' : Value} (G : C.Gl) (hk : sc.kind = .function) (hx : sc.names.lookup x = some .globalImplicit) (e : nsIn C.K mainGlobals x = some none) (hv : bootBuiltins x = some v') (h : Q (.val v') ρ σ) (hd : (x == ("__debug__" : Str)) = false) (hn : x ≠ "__name__") : AW RV C E (eval (.Name x pos) (envX q sc C.L f cd cl)) Q ρ σ :=
  xn_built G hk hx e hv (v := .val v') rfl h hd hn
theorem cn_globR {scope : Scope} {c a : Addr} (G : C.Gl) (hg : env.globals = mainGlobals) (hk : scope.kind = .function) (hx : (relabel scope env).names.lookup x = some .globalImplicit) (e : nsIn C.K mainGlobals x = some (some (.ref a))) (h : Q (.ref a) ρ σ) (hd : (x == ("__debug__" : Str)) = false) : AW RV C E (eval (.Name x pos) (compEnvC scope cl c env)) Q ρ σ :=
  cn_glob G hg hk hx e (v := .ref a) rfl h hd
theorem cn_builtV {scope : Scope} {c : Addr} {v' : Value} (G : C.Gl) (hg : env.globals = mainGlobals) (hb : env.builtins = builtinsNs) (hk : scope.kind = .function) (hx : (relabel scope env).names.lookup x = some .globalImplicit) (e : nsIn C.K mainGlobals x = some none) (hv : bootBuiltins x = some v') (h : Q (.val v') ρ σ) (hd : (x == ("__debug__" : Str)) = false) (hn : x ≠ "__name__") : AW RV C E (eval (.Name x pos) (compEnvC scope cl c env)) Q ρ σ :=
  cn_built G hg hb hk hx e hv (v := .val v') rfl h hd hn
theorem ex_exprX {e : Expr} (hk : sc.kind = .function) (h : AW RV C E (eval e (envX q sc C.L f cd cl)) (fun v ρ₁ σ₁ => match v with | .none => QF .next ρ₁ σ₁ | _ => False) ρ σ) (hsw : swapsWith e none pos.line (envX q sc C.L f cd cl) = Pure.pure false) : AW RF C E (exec (.Expr e pos) (envX q sc C.L f cd cl)) QF ρ σ :=
  ex_expr h (by unfold interactive; rw [show (envX q sc C.L f cd cl).scope.kind = .function from hk]; rfl) hsw
end
theorem mem_ints' {ns : List Int} {d : List AV} {v : AV} {r : List AV} (h : ns.map AV.int = d ++ v :: r) : ∃ x, v = .int x ∧ x ∈ ns := by
  have : v ∈ ns.map AV.int := by rw [h]; simp
  obtain ⟨x, hx, e⟩ := List.mem_map.mp this
  exact ⟨x, e.symm, hx⟩
theorem RV_ref (a : Addr) : RV (.ref a) (.ref a) := rfl
theorem foldl_len (sep : Str) : ∀ (ls : List Str) (n : Nat), ls.foldl (fun x1 x2 => x1 + x2.length + sep.length) n = n + (ls.map Str.length).sum + ls.length * sep.length
  | [], n => by simp
  | x :: r, n => by rw [List.foldl_cons, foldl_len sep r]; simp only [List.map_cons, List.sum_cons, List.length_cons, Nat.succ_mul]; omega
theorem joinOk_tx {sep : List Nat} {ls : List (List Nat)} (h : (ls.map List.length).sum + ls.length * sep.length ≤ 1000000) : JoinOk (tx sep) (ls.map tx) = true := by
  unfold JoinOk Builtin.Str.tooLong
  rw [sizeLine_eq]
  have e : (ls.map tx).map Str.length = ls.map List.length := by rw [List.map_map]; exact List.map_congr_left fun l _ => tx_len l
  have := foldl_len (tx sep) (ls.map tx) 0
  rw [e] at this
  simp only [List.length_map, tx_len, Nat.zero_add] at this
  simp only [← Array.foldl_toList, this]
  simp
  omega
section
variable {C : Cx} {E : Value → Shared → Prop} {ρ : Loc} {σ : Sto} {Q : AV → Loc → Sto → Prop}
theorem t_join {sep : List Nat} {a : Addr} {ls : List (List Nat)} (hm : (a, AO.list (ls.map fun l => .str (tx l))) ∈ σ) (hz : (ls.map List.length).sum + ls.length * sep.length ≤ 1000000) (h : Q (.str (tx (joinL sep ls))) ρ σ) : ACall C E (.builtin "str.join") [.str (tx sep), .ref a] Q ρ σ :=
  b_join (xs := ls.map tx) (by simpa [List.map_map, Function.comp_def] using hm) (joinOk_tx hz) (by rw [tx_join]; exact h)
end
theorem pySl_to {α : Type} (xs : List α) {i : Int} (h : 0 ≤ i) : pySl xs none (some i) = xs.take i.toNat := by
  unfold pySl
  simp only [cLo, cHi, cAt, List.drop_zero, Nat.sub_zero]
  by_cases hi : i ≤ xs.length
  · have e : (max 0 (min (if i < 0 then i + (xs.length : Int) else i) xs.length)).toNat = i.toNat := by omega
    rw [e]
  · have e : (max 0 (min (if i < 0 then i + (xs.length : Int) else i) xs.length)).toNat = xs.length := by omega
    rw [e, List.take_of_length_le (Nat.le_refl _), List.take_of_length_le (by omega)]
theorem pySl_from {α : Type} (xs : List α) {i : Int} (h : 0 ≤ i) : pySl xs (some i) none = xs.drop i.toNat := by
  unfold pySl
  simp only [cLo, cHi, cAt]
  by_cases hi : i ≤ xs.length
  · have e : (max 0 (min (if i < 0 then i + (xs.length : Int) else i) xs.length)).toNat = i.toNat := by omega
    rw [e, List.take_of_length_le (by simp)]
  · have e : (max 0 (min (if i < 0 then i + (xs.length : Int) else i) xs.length)).toNat = xs.length := by omega
    rw [e, List.drop_of_length_le (Nat.le_refl _), List.drop_of_length_le (by omega)]
    simp
end Mine
namespace Mine
open PySem PySem.W PySem.Spec PySem.Calls PyProof.Rows
theorem rl_map (env : Env) (x : Str) : ∀ names : List (Str × NameKind), (names.map fun (n, k) => if (k == NameKind.free && env.scope.kind == .function && env.kindOf n == some .cell) then (n, NameKind.cell) else (n, k)).lookup x =
    (names.lookup x).map fun k => if (k == NameKind.free && env.scope.kind == .function && env.kindOf x == some .cell) then NameKind.cell else k
  | [] => rfl
  | (n, k) :: r => by
    have ih := rl_map env x r
    have key : ∀ b : Bool, ((if b = true then (n, NameKind.cell) else (n, k)) : Str × NameKind) = (n, if b = true then NameKind.cell else k) := by intro b; cases b <;> rfl
    rw [List.map_cons]
    show List.lookup x ((if (k == NameKind.free && env.scope.kind == .function && env.kindOf n == some .cell) = true then (n, NameKind.cell) else (n, k)) :: _) = _
    rw [key]
    by_cases e : x = n
    · subst e
      simp only [List.lookup_cons_self, Option.map_some]
    · have : (x == n) = false := beq_eq_false_iff_ne.mpr e
      simp only [List.lookup_cons, this]
      exact ih
theorem rl_cell {scope : Scope} {env : Env} {x : Str} (h : scope.names.lookup x = some .free) (hk : env.scope.kind = .function) (hx : env.kindOf x = some .cell) : (relabel scope env).names.lookup x = some .cell := by
  unfold relabel
  rw [rl_map, h, hk, hx]; rfl
theorem rl_free {scope : Scope} {env : Env} {x : Str} (h : scope.names.lookup x = some .free) (hx : env.kindOf x = some .free) : (relabel scope env).names.lookup x = some .free := by
  unfold relabel
  rw [rl_map, h, hx]
  simp
theorem rl_same {scope : Scope} {env : Env} {x : Str} {k : NameKind} (h : scope.names.lookup x = some k) (hk : k ≠ .free) : (relabel scope env).names.lookup x = some k := by
  unfold relabel
  rw [rl_map, h]
  simp
  exact fun e => absurd e hk
section
variable {C : Cx} {E : Value → Shared → Prop} {ρ : Loc} {σ σ' : Sto} {x q : Str} {sc scope : Scope} {f c c' : Addr} {cd : Value} {cl clf : List (Str × Addr)} {a v : AV} {pos : Pos} {Q : AV → Loc → Sto → Prop}
theorem kn_local {ρ₂ : Loc} {env : Env} (hk : scope.kind = .function) (hx : scope.names.lookup x = some .local) (hm : (c, AO.ns ρ₂) ∈ σ) (hl : ρ₂.lookup x = some v) (h : Q v ρ σ) (hd : (x == ("__debug__" : Str)) = false) : AW RV C E (eval (.Name x pos) (compEnvC scope cl c env)) Q ρ σ :=
  cn_local hk (rl_same hx (by decide)) hm hl h hd
theorem kn_cell (hk : scope.kind = .function) (hx : scope.names.lookup x = some .free) (hk' : sc.kind = .function) (hx' : sc.names.lookup x = some .cell) (hc : cl.lookup x = some c') (hm : (c', AO.cell (some v)) ∈ σ) (h : Q v ρ σ) (hd : (x == ("__debug__" : Str)) = false) : AW RV C E (eval (.Name x pos) (compEnvC scope cl c (envX q sc C.L f cd clf))) Q ρ σ :=
  cn_cell hk (rl_cell hx hk' hx') hc hm h hd
theorem kn_globR {env : Env} {a : Addr} (G : C.Gl) (hg : env.globals = mainGlobals) (hk : scope.kind = .function) (hx : scope.names.lookup x = some .globalImplicit) (e : nsIn C.K mainGlobals x = some (some (.ref a))) (h : Q (.ref a) ρ σ) (hd : (x == ("__debug__" : Str)) = false) : AW RV C E (eval (.Name x pos) (compEnvC scope cl c env)) Q ρ σ :=
  cn_globR G hg hk (rl_same hx (by decide)) e h hd
theorem kn_builtV {env : Env} {v' : Value} (G : C.Gl) (hg : env.globals = mainGlobals) (hb : env.builtins = builtinsNs) (hk : scope.kind = .function) (hx : scope.names.lookup x = some .globalImplicit) (e : nsIn C.K mainGlobals x = some none) (hv : bootBuiltins x = some v') (h : Q (.val v') ρ σ) (hd : (x == ("__debug__" : Str)) = false) (hn : x ≠ "__name__") : AW RV C E (eval (.Name x pos) (compEnvC scope cl c env)) Q ρ σ :=
  cn_builtV G hg hb hk (rl_same hx (by decide)) e hv h hd hn
theorem ks_local {env : Env} {ρ₂ ρ₃ : Loc} {Q : Loc → Sto → Prop} (hk : scope.kind = .function) (hx : scope.names.lookup x = some .local) (hσ : Pick (c, .ns ρ₂) σ σ') (hr : rset ρ₂ x a = ρ₃) (h : Q ρ ((c, .ns ρ₃) :: σ')) : ASt C E (compEnvC scope cl c env) x a Q ρ σ :=
  cs_local hk (rl_same hx (by decide)) hσ hr h
end
theorem ite_d {p : Prop} [Decidable p] {A B : Prop} (h1 : p → A) (h2 : ¬ p → B) : if decide p = true then A else B := by
  by_cases h : p
  · simp only [h, decide_true, if_true]; exact h1 h
  · simp only [h, decide_false, Bool.false_eq_true, if_false]; exact h2 h
theorem ite_nd {p : Prop} [Decidable p] {A B : Prop} (h1 : ¬ p → A) (h2 : p → B) : if (!decide p) = true then A else B := by
  by_cases h : p
  · simp only [h, decide_true, Bool.not_true, Bool.false_eq_true, if_false]; exact h2 h
  · simp only [h, decide_false, Bool.not_false, if_true]; exact h1 h
/-- the states of a range's iterator -/
abbrev rit (x : Int) (n : Nat) (i : Nat) : AO := riterO (x + (i : Nat)) ((n : Int) - (i : Nat))
theorem iter_rng {C : Cx} {x : Int} {n : Nat} (hh : C.A.handled = none) : Iter C (rit x n) (rng x n) (fun _ => True) := iter_range hh
theorem small_of {x y : Int} (h1 : -1000000000 ≤ x) (h2 : x ≤ 1000000000) (h3 : -1000000000 ≤ y) (h4 : y ≤ 1000000000) : Builtin.Range.small x y 1 = true := by
  unfold Builtin.Range.small Builtin.Range.rangeFitsLong
  rw [rangeSize_one]
  simp
  split <;> omega
theorem it_rng {C : Cx} {E : Value → Shared → Prop} {ρ : Loc} {σ : Sto} {a : Addr} {x y : Int} {n : Nat} {P : Addr → Loc → Sto → Prop} (hm : (a, rangeO x y) ∈ σ) (hn : (y - x).toNat = n) (h1 : -1000000000 ≤ x) (h2 : x ≤ 1000000000) (h3 : -1000000000 ≤ y) (h4 : y ≤ 1000000000) (h : ∀ I, P I ρ ((I, rit x n 0) :: σ)) : AIt C E (.ref a) P ρ σ :=
  it_range hm (small_of h1 h2 h3 h4) fun I => by
    have e : rit x n 0 = riterO x (if x < y then y - x else 0) := by
      show riterO (x + ((0 : Nat) : Int)) ((n : Int) - ((0 : Nat) : Int)) = _
      congr 1
      · omega
      · split <;> omega
    rw [← e]; exact h I
theorem rng_split {x : Int} {n : Nat} {d : List AV} {v : AV} {r : List AV} (h : rng x n = d ++ v :: r) : v = .int (x + (d.length : Nat)) ∧ d.length < n := by
  have hl := congrArg List.length h
  rw [rng_length] at hl
  simp at hl
  have h1 : (rng x n)[d.length]? = some v := by rw [h]; simp
  refine ⟨?_, by omega⟩
  have hlt : d.length < n := by omega
  simp [rng, hlt] at h1
  exact h1.symm
section
variable {C : Cx} {E : Value → Shared → Prop} {ρ : Loc} {σ : Sto} {Q : AV → Loc → Sto → Prop}
theorem b_maxM {a b : Int} (hh : C.A.handled = none) (h : Q (.int (max a b)) ρ σ) : ACall C E (.builtin "max") [.int a, .int b] Q ρ σ :=
  b_max hh (by have e : (if b > a then b else a) = max a b := by split <;> omega
               rw [e]; exact h)
theorem mulOk_l {a b : Int} (h : Builtin.Int.intBits a ≤ 64) : IntMulOk a b := by
  unfold IntMulOk
  have : decide (Builtin.Int.intBits a > shortFactorBits) = false := by simp [shortFactorBits]; exact h
  simp [this]
theorem mulOk_r {a b : Int} (h : Builtin.Int.intBits b ≤ 64) : IntMulOk a b := by
  unfold IntMulOk
  have : decide (Builtin.Int.intBits b > shortFactorBits) = false := by simp [shortFactorBits]; exact h
  simp [this]
theorem o_mulL {a b : Int} (hm : Builtin.Int.intBits a ≤ 64) (h : Q (.int (a * b)) ρ σ) : Op2 C E .Mult (.int a) (.int b) Q ρ σ := o_mul_int (mulOk_l hm) h
theorem o_mulR {a b : Int} (hm : Builtin.Int.intBits b ≤ 64) (h : Q (.int (a * b)) ρ σ) : Op2 C E .Mult (.int a) (.int b) Q ρ σ := o_mul_int (mulOk_r hm) h
end
end Mine
namespace Mine
open PySem PySem.W PySem.Spec PySem.Calls PyProof.Rows
theorem rvs_ints : ∀ {vs : List Value} {ns : List Int}, IntsAre vs ns → RVs (ns.map .int) vs
  | _, _, .nil => .nil
  | _, _, .cons _ t h => .cons ⟨t, rfl⟩ (rvs_ints h)
theorem law_wp {prog p : Program} {w : World} {s₁ : Shared} {h₁ : Heap} {tk₁ : Nat} {L f a : Addr} {q : Str} {sc : Scope} {cd : Value} {cl : List (Str × Addr)} {body : List Stmt} {m mg mb : Str → Option Value} {K : Frag} {loose : List Str} {mean : ExcName → Option Value} {Q : Flow → Shared → Prop} {E : Value → Shared → Prop} {vs : List Value} {ns : List Int} {cells : List (Addr × Obj)}
    (KX : K.In s₁.heap) (T : Top p loose mean mg mb s₁.heap) (B : Below callerA s₁.heap [] s₁.heap) (hL : s₁.heap.IsList a vs.toArray) (hI : IntsAre vs ns) (F : Fr s₁.heap L h₁ m) (hm : m (Str.ofString "script") = some (.ref a)) (N : News s₁.heap L h₁ cells)
    (σ : Addr → Sto) (hσ : ∀ p ∈ σ L, ∃ o, (p.1, o) ∈ cells ∧ RO p.2 o) (nd : ((σ L).map (·.1)).Nodup) (hk : sc.kind = .function)
    (law : ∀ C : Cx, C.K = K → C.L = L → C.Ok (envX q sc C.L f cd cl) 20 → BaseL C a (ns.map .int) → AW RF C E (execs body (envX q sc C.L f cd cl)) (fun fl _ _ => fl = .ret (.bool true)) [(Str.ofString "script", .ref a)] (σ C.L))
    (hQ : ∀ h tk m, Fr s₁.heap L h m → Q (.ret (.bool true)) { s₁ with heap := h, toks := tk }) :
    wpAny (model prog w) (callerA.deeper (envX q sc L f cd cl)) (execs body (envX q sc L f cd cl)) Q E { s₁ with heap := h₁, toks := tk₁ } := by
  let C : Cx := { prog := prog, w := w, A := callerA.deeper (envX q sc L f cd cl), A₀ := callerA, base := s₁.heap, outer := [], h₀ := s₁.heap, L := L, s₀ := s₁, K := K, p := p, loose := loose, mg := mg, mb := mb }
  have O : C.Ok (envX q sc C.L f cd cl) 20 := by
    refine ⟨B, KX, topRead_of T, Around.frames_deeper B.stack, rfl, hk, rfl, ?_, ?_⟩
    · show callerA.depth + 1 + 20 < recursionLimit
      decide
    · show callerA.units + 3 + 10 * 20 < cLine
      decide
  have hs : Rel C [(Str.ofString "script", .ref a)] (σ L) { s₁ with heap := h₁, toks := tk₁ } := by
    refine ⟨⟨h₁, tk₁, rfl⟩, ⟨m, F, fun x v e => ?_⟩, fun p hp => ?_, nd⟩
    · have := lk_mem e
      rw [List.mem_singleton] at this
      cases this
      exact ⟨_, hm, rfl⟩
    · obtain ⟨o, ho, r⟩ := hσ p hp
      exact ⟨o, (N _ ho).1, (N _ ho).2.1, (N _ ho).2.2, r⟩
  refine wpAny_mono (law C rfl rfl O ⟨vs, rvs_ints hI, hL⟩ _ hs) (fun fl s' ⟨fl', ρ', σ', rf, hr, e⟩ => ?_) fun _ _ e => e
  subst e
  obtain ⟨v, rfl, rv⟩ := rf
  cases rv
  obtain ⟨⟨h, tk, e⟩, ⟨m', F', _⟩, _, _⟩ := hr
  subst e
  exact hQ h tk m' F'
theorem law_wp' {prog p : Program} {w : World} {s₁ : Shared} {h₁ : Heap} {tk₁ : Nat} {L f a : Addr} {q : Str} {sc : Scope} {cd : Value} {cl : List (Str × Addr)} {body : List Stmt} {m mg mb : Str → Option Value} {K : Frag} {loose : List Str} {mean : ExcName → Option Value} {Q : Flow → Shared → Prop} {E : Value → Shared → Prop} {vs : List Value} {ns : List Int} {cells : List (Addr × Obj)}
    (pw : Program) (clf : Addr → List (Str × Addr)) (σ : Addr → Sto)
    (KX : K.In s₁.heap) (T : Top p loose mean mg mb s₁.heap) (B : Below callerA s₁.heap [] s₁.heap) (hL : s₁.heap.IsList a vs.toArray) (hI : IntsAre vs ns) (F : Fr s₁.heap L h₁ m) (N : News s₁.heap L h₁ cells)
    (hbody : body = fnBody pw "law") (hsc : sc = fnScope pw "law") (hcl : cl = clf L) (hm : m (Str.ofString "script") = some (.ref a))
    (hσ : ∀ p ∈ σ L, ∃ o, (p.1, o) ∈ cells ∧ RO p.2 o) (nd : ((σ L).map (·.1)).Nodup) (hk : (fnScope pw "law").kind = .function)
    (law : ∀ C : Cx, C.K = K → C.Ok (envX q (fnScope pw "law") C.L f cd (clf C.L)) 20 → BaseL C a (ns.map .int) → AW RF C E (execs (fnBody pw "law") (envX q (fnScope pw "law") C.L f cd (clf C.L))) (fun fl _ _ => fl = .ret (.bool true)) [(Str.ofString "script", .ref a)] (σ C.L))
    (hQ : ∀ h tk m, Fr s₁.heap L h m → Q (.ret (.bool true)) { s₁ with heap := h, toks := tk }) :
    wpAny (model prog w) (callerA.deeper (envX q sc L f cd cl)) (execs body (envX q sc L f cd cl)) Q E { s₁ with heap := h₁, toks := tk₁ } := by
  subst hbody hsc hcl
  refine law_wp KX T B hL hI F hm N σ hσ nd hk (fun C hK hCL O hb => ?_) hQ
  subst hCL
  exact law C hK O hb
def fdOf (K : Frag) (f : Addr) : FuncData := match K.lookup f with
  | some ⟨_, _, .func fd, _⟩ => fd
  | _ => default
def objOf (K : Frag) (f : Addr) : Obj := (K.lookup f).getD default
theorem fn_of {K : Frag} {p : Program} {n : String} {f : Addr} (h1 : nsIn K mainGlobals (Str.ofString n) = some (some (.ref f))) (h2 : keepIn K (.ref f) = true)
    (h3 : K.lookup f = some ⟨(objOf K f).cls, (objOf K f).dict, .func (fnX (Str.ofString n) (fdOf K f).qualname (fnArgs p n) (fnBody p n) (fnScope p n) [] .none .none .none (fdOf K f).pyModule none (fdOf K f).code .none), (objOf K f).slots⟩)
    (h4 : codeIn K (fdOf K f).code (fdOf K f).qualname = true) : Fn K p n f := ⟨h1, h2, _, _, _, _, _, _, h3, h4⟩
theorem bn_nil {K : Frag} : Bn K [] := fun _ h => nomatch h
theorem bn_cons {K : Frag} {n : String} {ns : List String} (h : nsIn K mainGlobals (Str.ofString n) = some none) (hr : Bn K ns) : Bn K (n :: ns) := fun m hm => by
  rcases List.mem_cons.mp hm with rfl | hm
  · exact h
  · exact hr m hm
end Mine
namespace Mine
open PySem
open PySem.Sre (M Frame Kept Wait Seen)

/-- the machine's own marks and loops -/
structure Dt where
  marks : Array (Option Nat)
  lastmark : Int
  lastindex : Int
  handed : Nat
  loops : Array Sre.Loop
  inner : Option Nat
def dt (m : M) : Dt := ⟨m.marks, m.lastmark, m.lastindex, m.handed, m.loops, m.inner⟩
def put (m : M) (d : Dt) (pc pos : Nat) (om : Bool) (sn : Seen) (an : Option Bool) : M :=
  { m with marks := d.marks, lastmark := d.lastmark, lastindex := d.lastindex, handed := d.handed, loops := d.loops, inner := d.inner, pc := pc, pos := pos, outermost := om, seen := sn, answer := an }

theorem runFor_succ (n : Nat) (m : M) : M.runFor (n + 1) m = if m.outcome.isSome then m else M.runFor n m.step := rfl
theorem runFor_done {m : M} (h : m.outcome.isSome = true) : ∀ n, M.runFor n m = m
  | 0 => rfl
  | n + 1 => by rw [runFor_succ, if_pos h]
theorem runFor_add (a b : Nat) (m : M) : M.runFor (a + b) m = M.runFor b (M.runFor a m) := by
  induction a generalizing m with
  | zero => rw [Nat.zero_add]; rfl
  | succ a ih =>
    rw [Nat.succ_add, runFor_succ, runFor_succ]
    by_cases h : m.outcome.isSome = true
    · rw [if_pos h, if_pos h, runFor_done h]
    · rw [if_neg h, if_neg h, ih]
theorem runFor_one {m : M} (h : m.outcome = none) : M.runFor 1 m = m.step := by
  unfold M.runFor
  simp [h, M.runFor]

/-- within N steps the machine is at m' -/
def RB (N : Nat) (m m' : M) : Prop := ∃ k, k ≤ N ∧ M.runFor k m = m'
theorem RB.refl {N : Nat} {m : M} : RB N m m := ⟨0, Nat.zero_le _, rfl⟩
theorem RB.trans {a b : Nat} {m m' m'' : M} (h : RB a m m') (h' : RB b m' m'') : RB (a + b) m m'' := by
  obtain ⟨k, hk, rfl⟩ := h
  obtain ⟨k', hk', rfl⟩ := h'
  exact ⟨k + k', by omega, runFor_add k k' m⟩
theorem RB.le {a b : Nat} {m m' : M} (h : RB a m m') (hab : a ≤ b) : RB b m m' := by
  obtain ⟨k, hk, e⟩ := h
  exact ⟨k, by omega, e⟩
theorem RB.step {m : M} (h : m.outcome = none) : RB 1 m m.step := ⟨1, Nat.le_refl _, runFor_one h⟩
theorem RB.next {a : Nat} {m m' m'' : M} (h : m.outcome = none) (e : m.step = m') (h' : RB a m' m'') : RB (a + 1) m m'' := by
  rw [Nat.add_comm]; exact (e ▸ RB.step h).trans h'

/-- the machine comes to its frames again with the answer b -/
def Ev (N : Nat) (m : M) (b : Bool) (d : Dt) : Prop := ∃ pc pos om sn, RB N m (put m d pc pos om sn (some b))
theorem Ev.le {a b : Nat} {m : M} {c : Bool} {d : Dt} (h : Ev a m c d) (hab : a ≤ b) : Ev b m c d := by
  obtain ⟨pc, pos, om, sn, h⟩ := h
  exact ⟨pc, pos, om, sn, h.le hab⟩
/-- what is like m but for place, marks and what has been seen -/
theorem Ev.next {a : Nat} {m : M} {d d' : Dt} {pc pos : Nat} {om : Bool} {sn : Seen} {b : Bool} (h : m.outcome = none) (e : m.step = put m d pc pos om sn none) (h' : Ev a (put m d pc pos om sn none) b d') : Ev (a + 1) m b d' := by
  obtain ⟨pc', pos', om', sn', h'⟩ := h'
  exact ⟨pc', pos', om', sn', RB.next h e h'⟩
theorem Ev.say {m : M} {d : Dt} {pc pos : Nat} {om : Bool} {sn : Seen} {b : Bool} (h : m.outcome = none) (e : m.step = put m d pc pos om sn (some b)) : Ev 1 m b d := ⟨pc, pos, om, sn, e ▸ RB.step h⟩

/-- ready to take a word of the code -/
structure Rdy (m : M) (op : Nat) : Prop where
  out : m.outcome = none
  ans : m.answer = none
  lt : m.pc < m.code.size
  op : m.code.getD m.pc 0 = op
section
variable {m : M} {a : Nat} {b : Bool} {d : Dt}
theorem op2 : Sre.ops[2]? = some .ANY := rfl
theorem op3 : Sre.ops[3]? = some .ANY_ALL := rfl
theorem op6 : Sre.ops[6]? = some .AT := rfl
theorem op13 : Sre.ops[13]? = some .IN := rfl
theorem op16 : Sre.ops[16]? = some .LITERAL := rfl
theorem op17 : Sre.ops[17]? = some .MARK := rfl
theorem op18 : Sre.ops[18]? = some .MAX_UNTIL := rfl
theorem op20 : Sre.ops[20]? = some .NOT_LITERAL := rfl
theorem op23 : Sre.ops[23]? = some .REPEAT := rfl
theorem op24 : Sre.ops[24]? = some .REPEAT_ONE := rfl
theorem step_exec (h : m.outcome = none) (ha : m.answer = none) (hl : m.pc < m.code.size) : m.step = m.exec := by
  unfold M.step
  simp [h, ha, hl]
theorem word_eq (m : M) (k : Nat) : m.word k = m.code.getD (m.pc + k) 0 := rfl
theorem word0 (m : M) : m.word 0 = m.code.getD m.pc 0 := rfl

theorem ev_success (R : Rdy m 1) (h : (m.outermost && ((m.wholeText && m.pos != m.lim) || (m.mustAdvance && m.pos == m.start))) = false) : Ev 1 m true { dt m with handed := m.pos } := by
  refine Ev.say (pc := m.pc) (pos := m.pos) (om := m.outermost) (sn := m.seen.add 1) R.out ?_
  rw [step_exec R.out R.ans R.lt]
  unfold M.exec
  rw [word0, R.op]
  show (if (m.outermost && ((m.wholeText && m.pos != m.lim) || (m.mustAdvance && m.pos == m.start))) = true then _ else _) = _
  rw [h]
  rfl
theorem ev_success_not (R : Rdy m 1) (h : (m.outermost && ((m.wholeText && m.pos != m.lim) || (m.mustAdvance && m.pos == m.start))) = true) : Ev 1 m false (dt m) := by
  refine Ev.say (pc := m.pc) (pos := m.pos) (om := m.outermost) (sn := m.seen.add 1) R.out ?_
  rw [step_exec R.out R.ans R.lt]
  unfold M.exec
  rw [word0, R.op]
  show (if (m.outermost && ((m.wholeText && m.pos != m.lim) || (m.mustAdvance && m.pos == m.start))) = true then _ else _) = _
  rw [h]
  rfl
/-- the word at i takes exactly the signs of p -/
def Acc (code : Array Nat) (i : Nat) (p : Nat → Bool) : Prop := ∀ c sn, ∃ sn', Sre.accepts code i c sn = .ok (p c, sn')
/-- the words that take one sign -/
def isItem (op : Nat) : Bool := [2, 3, 13, 16, 20].contains op
theorem ev_item {op : Nat} {p : Nat → Bool} (R : Rdy m op) (hi : isItem op = true) (A : Acc m.code m.pc p) (hp : m.pos < m.lim) (hy : p (m.text.getD m.pos 0) = true)
    (h : ∀ sn, Ev a (put m (dt m) (m.pc + Sre.itemWidth m.code m.pc) (m.pos + 1) m.outermost sn none) b d) : Ev (a + 1) m b d := by
  obtain ⟨sn', hacc⟩ := A (m.text.getD m.pos 0) (m.seen.add op)
  rw [hy] at hacc
  refine Ev.next (d := dt m) (pc := m.pc + Sre.itemWidth m.code m.pc) (pos := m.pos + 1) (om := m.outermost) (sn := sn') R.out ?_ (h sn')
  rw [step_exec R.out R.ans R.lt]
  have hlt : ¬ m.pos ≥ m.lim := by omega
  simp only [isItem, List.contains_cons, List.contains_nil, Bool.or_false, Bool.or_eq_true, beq_iff_eq] at hi
  rcases hi with rfl | rfl | rfl | rfl | rfl <;>
  · unfold M.exec
    rw [word0, R.op]
    simp only [op2, op3, op13, op16, op20, if_neg hlt, hacc]
    rw [show m.answer = none from R.ans]
    rfl
theorem ev_item_no {op : Nat} {p : Nat → Bool} (R : Rdy m op) (hi : isItem op = true) (A : Acc m.code m.pc p) (hn : m.pos < m.lim → p (m.text.getD m.pos 0) = false) : Ev 1 m false (dt m) := by
  obtain ⟨sn', hacc⟩ := A (m.text.getD m.pos 0) (m.seen.add op)
  by_cases hlt : m.pos ≥ m.lim
  · refine Ev.say (pc := m.pc) (pos := m.pos) (om := m.outermost) (sn := m.seen.add op) R.out ?_
    rw [step_exec R.out R.ans R.lt]
    simp only [isItem, List.contains_cons, List.contains_nil, Bool.or_false, Bool.or_eq_true, beq_iff_eq] at hi
    rcases hi with rfl | rfl | rfl | rfl | rfl <;>
    · unfold M.exec
      rw [word0, R.op]
      simp only [op2, op3, op13, op16, op20, if_pos hlt]
      rfl
  · have hp := hn (by omega)
    rw [hp] at hacc
    refine Ev.say (pc := m.pc) (pos := m.pos) (om := m.outermost) (sn := sn') R.out ?_
    rw [step_exec R.out R.ans R.lt]
    simp only [isItem, List.contains_cons, List.contains_nil, Bool.or_false, Bool.or_eq_true, beq_iff_eq] at hi
    rcases hi with rfl | rfl | rfl | rfl | rfl <;>
    · unfold M.exec
      rw [word0, R.op]
      simp only [op2, op3, op13, op16, op20, if_neg hlt, hacc]
      rfl
theorem ev_at {yes : Bool} (R : Rdy m 6) (ha : m.isAt (m.code.getD (m.pc + 1) 0) = .ok yes) (hy : yes = true) (h : ∀ sn, Ev a (put m (dt m) (m.pc + 2) m.pos m.outermost sn none) b d) : Ev (a + 1) m b d := by
  subst hy
  refine Ev.next (d := dt m) (pc := m.pc + 2) (pos := m.pos) (om := m.outermost) (sn := (m.seen.add 6).add (43 + m.code.getD (m.pc + 1) 0)) R.out ?_ (h _)
  rw [step_exec R.out R.ans R.lt]
  unfold M.exec
  rw [word0, R.op]
  have e : ({ m with seen := m.seen.add 6 } : M).isAt (({ m with seen := m.seen.add 6 } : M).word 1) = .ok true := ha
  simp only [op6, e]
  rw [show m.answer = none from R.ans]
  rfl
theorem ev_at_no {yes : Bool} (R : Rdy m 6) (ha : m.isAt (m.code.getD (m.pc + 1) 0) = .ok yes) (hy : yes = false) : Ev 1 m false (dt m) := by
  subst hy
  refine Ev.say (pc := m.pc) (pos := m.pos) (om := m.outermost) (sn := (m.seen.add 6).add (43 + m.code.getD (m.pc + 1) 0)) R.out ?_
  rw [step_exec R.out R.ans R.lt]
  unfold M.exec
  rw [word0, R.op]
  have e : ({ m with seen := m.seen.add 6 } : M).isAt (({ m with seen := m.seen.add 6 } : M).word 1) = .ok false := ha
  simp only [op6, e]
  rfl
/-- a mark set -/
def Dt.mark (d : Dt) (i pos : Nat) : Dt :=
  let cleared := if (i : Int) ≤ d.lastmark + 1 then d.marks
    else (List.range i).foldl (fun (a : Array (Option Nat)) (j : Nat) => if (j : Int) > d.lastmark then a.setIfInBounds j none else a) d.marks
  { d with marks := cleared.setIfInBounds i (some pos), lastmark := max d.lastmark i, lastindex := if i % 2 == 1 then (i / 2 + 1 : Nat) else d.lastindex }
theorem ev_mark (R : Rdy m 17) (h : ∀ sn, Ev a (put m ((dt m).mark (m.code.getD (m.pc + 1) 0) m.pos) (m.pc + 2) m.pos m.outermost sn none) b d) : Ev (a + 1) m b d := by
  refine Ev.next (d := (dt m).mark (m.code.getD (m.pc + 1) 0) m.pos) (pc := m.pc + 2) (pos := m.pos) (om := m.outermost) (sn := m.seen.add 17) R.out ?_ (h _)
  rw [step_exec R.out R.ans R.lt]
  unfold M.exec
  rw [word0, R.op]
  show M.mark _ (m.word 1) = _
  unfold M.mark
  rw [show m.answer = none from R.ans]
  rfl
end
end Mine
namespace Mine
open PySem
open PySem.Sre (M Frame Kept Wait Seen)
/-- what stands fast while a place is tried -/
structure Kc where
  code : Array Nat
  text : Array Nat
  lim : Nat
  start : Nat
  lastStart : Nat
  whole : Bool
  must : Bool
def kcOf (m : M) : Kc := ⟨m.code, m.text, m.lim, m.start, m.lastStart, m.wholeText, m.mustAdvance⟩
/-- the marks that count: the last one, and what they hold -/
structure Mk where
  lm : Int
  get : Nat → Option Nat
  nm : Nat
def Mk.At (k : Mk) (m : M) : Prop := m.lastmark = k.lm ∧ m.marks.size = k.nm ∧ (∀ i : Nat, (i : Int) ≤ k.lm → m.marks.getD i none = k.get i) ∧ -1 ≤ k.lm ∧ k.lm < k.nm
structure At (m : M) (K : Kc) (pc pos : Nat) (om : Bool) (inn : Option Nat) (L : Array Sre.Loop) (k : Mk) : Prop where
  kc : kcOf m = K
  pc : m.pc = pc
  pos : m.pos = pos
  om : m.outermost = om
  inn : m.inner = inn
  loops : m.loops = L
  mks : k.At m
  ans : m.answer = none
  out : m.outcome = none
/-- an end: its marks, and where the match ends -/
structure Rs where
  k : Mk
  hd : Nat
/-- the machine has come back to its frames with an answer -/
structure Res (m m' : M) (k : Mk) (r : Option Rs) : Prop where
  kc : kcOf m' = kcOf m
  frames : m'.frames = m.frames
  weight : m'.weight = m.weight
  out : m'.outcome = none
  ans : m'.answer = some r.isSome
  size : m'.marks.size = k.nm
  yes : ∀ x, r = some x → x.k.At m' ∧ m'.handed = x.hd
  no : r = none → (∀ i : Nat, (i : Int) ≤ k.lm → m'.marks.getD i none = k.get i) ∧ m'.loops = m.loops ∧ m'.inner = m.inner
/-- from here, within N steps and w of weight, the answer is r -/
def Ex (N w : Nat) (K : Kc) (pc pos : Nat) (om : Bool) (inn : Option Nat) (L : Array Sre.Loop) (k : Mk) (r : Option Rs) : Prop :=
  ∀ m, At m K pc pos om inn L k → m.weight + w ≤ 16777216 → ∃ m', RB N m m' ∧ Res m m' k r
section
variable {N w a : Nat} {K : Kc} {pc pos : Nat} {om : Bool} {inn : Option Nat} {L : Array Sre.Loop} {k k' : Mk} {r : Option Rs}
theorem Ex.le {N' w' : Nat} (h : Ex N w K pc pos om inn L k r) (hN : N ≤ N') (hw : w ≤ w') : Ex N' w' K pc pos om inn L k r := fun m hm hz => by
  obtain ⟨m', h1, h2⟩ := h m hm (by omega)
  exact ⟨m', h1.le hN, h2⟩
theorem At.code {m : M} (A : At m K pc pos om inn L k) : m.code = K.code := congrArg Kc.code A.kc
theorem At.text {m : M} (A : At m K pc pos om inn L k) : m.text = K.text := congrArg Kc.text A.kc
theorem At.lim {m : M} (A : At m K pc pos om inn L k) : m.lim = K.lim := congrArg Kc.lim A.kc
theorem At.rdy {m : M} {op : Nat} (A : At m K pc pos om inn L k) (hl : pc < K.code.size) (ho : K.code.getD pc 0 = op) : Rdy m op :=
  ⟨A.out, A.ans, by rw [A.code, A.pc]; exact hl, by rw [A.code, A.pc]; exact ho⟩
/-- one step to another place -/
theorem ex_goto {pc' pos' : Nat} (hm : ∀ i : Nat, (i : Int) ≤ k.lm → k'.get i = k.get i) (hlm : k.lm ≤ k'.lm) (hnm : k'.nm = k.nm)
    (st : ∀ m, At m K pc pos om inn L k → ∃ m', m.step = m' ∧ At m' K pc' pos' om inn L k' ∧ m'.frames = m.frames ∧ m'.weight = m.weight ∧ m'.loops = m.loops)
    (h : Ex a w K pc' pos' om inn L k' r) : Ex (a + 1) w K pc pos om inn L k r := fun m A hz => by
  obtain ⟨m', e, A', hf, hwt, hlp⟩ := st m A
  obtain ⟨m'', h1, R⟩ := h m' A' (by rw [hwt]; exact hz)
  refine ⟨m'', RB.next A.out e h1, ⟨R.kc.trans (A'.kc.trans A.kc.symm), R.frames.trans hf, R.weight.trans hwt, R.out, R.ans, by rw [R.size, hnm], R.yes, fun hr => ?_⟩⟩
  obtain ⟨n1, n2, n3⟩ := R.no hr
  exact ⟨fun i hi => (n1 i (by omega)).trans (hm i hi), n2.trans hlp, n3.trans (A'.inn.trans A.inn.symm)⟩
/-- one step to a no -/
theorem ex_no (st : ∀ m, At m K pc pos om inn L k → Ev 1 m false (dt m)) : Ex 1 0 K pc pos om inn L k none := fun m A hz => by
  obtain ⟨pc', pos', om', sn', h⟩ := st m A
  refine ⟨_, h, rfl, rfl, rfl, A.out, rfl, A.mks.2.1, (fun x e => by cases e), (fun _ => ⟨fun i hi => A.mks.2.2.1 i hi, rfl, rfl⟩)⟩
theorem put_at {m : M} {pc' pos' : Nat} {sn : Seen} (A : At m K pc pos om inn L k) : At (put m (dt m) pc' pos' m.outermost sn none) K pc' pos' om inn L k := ⟨A.kc, rfl, rfl, A.om, A.inn, A.loops, A.mks, rfl, A.out⟩
theorem step_of_ev {m : M} {d : Dt} {pc' pos' : Nat} {om' : Bool} {sn : Seen} {an : Option Bool} (h : m.step = put m d pc' pos' om' sn an) : ∃ m', m.step = m' ∧ m' = put m d pc' pos' om' sn an := ⟨_, h, rfl⟩
theorem ex_success (hl : pc < K.code.size) (ho : K.code.getD pc 0 = 1) (h : (om && ((K.whole && pos != K.lim) || (K.must && pos == K.start))) = false) : Ex 1 0 K pc pos om inn L k (some ⟨k, pos⟩) := fun m A hz => by
  have e : (m.outermost && ((m.wholeText && m.pos != m.lim) || (m.mustAdvance && m.pos == m.start))) = false := by
    rw [A.om, A.pos, A.lim, show m.wholeText = K.whole from congrArg Kc.whole A.kc, show m.mustAdvance = K.must from congrArg Kc.must A.kc, show m.start = K.start from congrArg Kc.start A.kc]; exact h
  obtain ⟨pc', pos', om', sn', h⟩ := ev_success (A.rdy hl ho) e
  exact ⟨_, h, ⟨rfl, rfl, rfl, A.out, rfl, A.mks.2.1, fun x hx => by cases hx; exact ⟨A.mks, A.pos⟩, fun e => by cases e⟩⟩
theorem ex_success_no (hl : pc < K.code.size) (ho : K.code.getD pc 0 = 1) (h : (om && ((K.whole && pos != K.lim) || (K.must && pos == K.start))) = true) : Ex 1 0 K pc pos om inn L k none :=
  ex_no fun m A => ev_success_not (A.rdy hl ho) (by rw [A.om, A.pos, A.lim, show m.wholeText = K.whole from congrArg Kc.whole A.kc, show m.mustAdvance = K.must from congrArg Kc.must A.kc, show m.start = K.start from congrArg Kc.start A.kc]; exact h)
theorem ex_item {op wd : Nat} {p : Nat → Bool} (hl : pc < K.code.size) (ho : K.code.getD pc 0 = op) (hi : isItem op = true) (hw : Sre.itemWidth K.code pc = wd) (Ac : Acc K.code pc p) (hp : pos < K.lim) (hy : p (K.text.getD pos 0) = true)
    (h : Ex a w K (pc + wd) (pos + 1) om inn L k r) : Ex (a + 1) w K pc pos om inn L k r :=
  ex_goto (fun _ _ => rfl) (Int.le_refl _) rfl (fun m A => by
    have R := A.rdy hl ho
    obtain ⟨sn', hacc⟩ := Ac (K.text.getD pos 0) (m.seen.add op)
    rw [hy] at hacc
    refine ⟨put m (dt m) (pc + wd) (pos + 1) m.outermost sn' none, ?_, put_at A, rfl, rfl, rfl⟩
    have hlt : ¬ m.pos ≥ m.lim := by rw [A.pos, A.lim]; omega
    rw [step_exec R.out R.ans R.lt]
    have hacc' : Sre.accepts m.code m.pc (m.text.getD m.pos 0) (m.seen.add op) = .ok (true, sn') := by rw [A.code, A.pc, A.text, A.pos]; exact hacc
    have hwd : Sre.itemWidth m.code m.pc = wd := by rw [A.code, A.pc]; exact hw
    have e1 := A.pc
    have e2 := A.pos
    subst e1 e2
    simp only [isItem, List.contains_cons, List.contains_nil, Bool.or_false, Bool.or_eq_true, beq_iff_eq] at hi
    rcases hi with rfl | rfl | rfl | rfl | rfl <;>
    · unfold M.exec
      rw [word0, R.op]
      simp only [op2, op3, op13, op16, op20, if_neg hlt, hacc', hwd]
      rw [show m.answer = none from R.ans]
      rfl) h
theorem ex_item_no {op : Nat} {p : Nat → Bool} (hl : pc < K.code.size) (ho : K.code.getD pc 0 = op) (hi : isItem op = true) (Ac : Acc K.code pc p) (hn : pos < K.lim → p (K.text.getD pos 0) = false) : Ex 1 0 K pc pos om inn L k none :=
  ex_no fun m A => ev_item_no (A.rdy hl ho) hi (by rw [A.code, A.pc]; exact Ac) (by rw [A.pos, A.lim, A.text]; exact hn)
theorem ex_at {what : Nat} (hl : pc < K.code.size) (ho : K.code.getD pc 0 = 6) (hw : K.code.getD (pc + 1) 0 = what)
    (ha : ∀ m : M, m.text = K.text → m.lim = K.lim → m.pos = pos → m.isAt what = .ok true) (h : Ex a w K (pc + 2) pos om inn L k r) : Ex (a + 1) w K pc pos om inn L k r :=
  ex_goto (fun _ _ => rfl) (Int.le_refl _) rfl (fun m A => by
    have R := A.rdy hl ho
    refine ⟨put m (dt m) (pc + 2) pos m.outermost ((m.seen.add 6).add (43 + what)) none, ?_, put_at A, rfl, rfl, rfl⟩
    rw [step_exec R.out R.ans R.lt]
    have e1 := A.pc
    have e2 := A.pos
    have e3 : m.word 1 = what := by rw [word_eq, A.code, e1]; exact hw
    unfold M.exec
    rw [word0, R.op]
    have e : ({ m with seen := m.seen.add 6 } : M).isAt (({ m with seen := m.seen.add 6 } : M).word 1) = .ok true := by
      show ({ m with seen := m.seen.add 6 } : M).isAt (m.word 1) = .ok true
      rw [e3]; exact ha _ A.text A.lim A.pos
    simp only [op6, e]
    rw [show ({ m with seen := m.seen.add 6 } : M).word 1 = what from e3]
    subst e1 e2
    rw [show m.answer = none from R.ans]
    rfl) h
theorem ex_at_no {what : Nat} (hl : pc < K.code.size) (ho : K.code.getD pc 0 = 6) (hw : K.code.getD (pc + 1) 0 = what)
    (ha : ∀ m : M, m.text = K.text → m.lim = K.lim → m.pos = pos → m.isAt what = .ok false) : Ex 1 0 K pc pos om inn L k none :=
  ex_no fun m A => ev_at_no (A.rdy hl ho) (ha m A.text A.lim A.pos ▸ by rw [A.code, A.pc, hw]) rfl
/-- a mark set -/
def Mk.set (k : Mk) (i pos : Nat) : Mk := ⟨max k.lm i, fun j => if j = i then some pos else if (j : Int) ≤ k.lm then k.get j else none, k.nm⟩
theorem getD_set_ne {α : Type} {a : Array α} {i j : Nat} {x d : α} (h : i ≠ j) : (a.setIfInBounds i x).getD j d = a.getD j d := by
  rw [Array.getD_eq_getD_getElem?, Array.getD_eq_getD_getElem?, Array.getElem?_setIfInBounds_ne h]
theorem fold_clear (lm : Int) : ∀ (l : List Nat) (a : Array (Option Nat)), (l.foldl (fun (a : Array (Option Nat)) (j : Nat) => if (j : Int) > lm then a.setIfInBounds j none else a) a).size = a.size ∧
    ∀ j : Nat, (l.foldl (fun (a : Array (Option Nat)) (j : Nat) => if (j : Int) > lm then a.setIfInBounds j none else a) a).getD j none = if j ∈ l ∧ (j : Int) > lm then none else a.getD j none
  | [], a => by simp
  | i :: l, a => by
    rw [List.foldl_cons]
    obtain ⟨h1, h2⟩ := fold_clear lm l (if (i : Int) > lm then a.setIfInBounds i none else a)
    refine ⟨by rw [h1]; split <;> simp, fun j => ?_⟩
    rw [h2 j]
    by_cases hi : (i : Int) > lm
    · simp only [hi, if_true]
      by_cases hj : j ∈ l ∧ (j : Int) > lm
      · rw [if_pos hj, if_pos ⟨.tail _ hj.1, hj.2⟩]
      · rw [if_neg hj]
        by_cases e : j = i
        · subst e
          rw [if_pos ⟨.head _, hi⟩]
          simp [Array.getD, Array.getElem_setIfInBounds]
        · have hne : ¬ (j ∈ i :: l ∧ (j : Int) > lm) := by
            rintro ⟨h, h'⟩
            rcases List.mem_cons.mp h with h | h
            · exact e h
            · exact hj ⟨h, h'⟩
          rw [if_neg hne]
          exact getD_set_ne (Ne.symm e)
    · simp only [hi, if_false]
      by_cases hj : j ∈ l ∧ (j : Int) > lm
      · rw [if_pos hj, if_pos ⟨.tail _ hj.1, hj.2⟩]
      · rw [if_neg hj, if_neg]
        rintro ⟨h, h'⟩
        rcases List.mem_cons.mp h with h | h
        · subst h; exact hi h'
        · exact hj ⟨h, h'⟩
theorem ex_mark {i : Nat} (hl : pc < K.code.size) (ho : K.code.getD pc 0 = 17) (hw : K.code.getD (pc + 1) 0 = i) (hi : i < k.nm) (hgt : k.lm < i) (h : Ex a w K (pc + 2) pos om inn L (k.set i pos) r) : Ex (a + 1) w K pc pos om inn L k r :=
  ex_goto (k' := k.set i pos) (fun j hj => by show (if j = i then some pos else if (j : Int) ≤ k.lm then k.get j else none) = _; rw [if_neg (by omega), if_pos hj]) (by show k.lm ≤ max k.lm i; omega) rfl (fun m A => by
    have R := A.rdy hl ho
    refine ⟨put m ((dt m).mark i pos) (pc + 2) pos m.outermost (m.seen.add 17) none, ?_, ?_, rfl, rfl, rfl⟩
    · rw [step_exec R.out R.ans R.lt]
      have e1 := A.pc
      have e2 := A.pos
      have e3 : m.word 1 = i := by rw [word_eq, A.code, e1]; exact hw
      unfold M.exec
      rw [word0, R.op]
      simp only [op17]
      rw [show ({ m with seen := m.seen.add 17 } : M).word 1 = i from e3]
      unfold M.mark
      rw [show m.answer = none from R.ans]
      subst e1 e2
      rfl
    · obtain ⟨q1, q2, q3, q4, q5⟩ := A.mks
      refine ⟨A.kc, rfl, rfl, A.om, A.inn, A.loops, ⟨?_, ?_, fun j hj => ?_, ?_, ?_⟩, rfl, A.out⟩
      · show max m.lastmark i = max k.lm i
        rw [q1]
      · show (Dt.mark (dt m) i pos).marks.size = k.nm
        unfold Dt.mark
        simp only [Array.size_setIfInBounds]
        split
        · exact q2
        · rw [(fold_clear _ _ _).1]; exact q2
      · show (Dt.mark (dt m) i pos).marks.getD j none = if j = i then some pos else if (j : Int) ≤ k.lm then k.get j else none
        have hj' : (j : Int) ≤ max k.lm i := hj
        have hms : ∀ b : Array (Option Nat), b.size = k.nm → (b.setIfInBounds i (some pos)).getD j none = if j = i then some pos else b.getD j none := by
          intro b hb
          by_cases e : j = i
          · subst e
            simp [Array.getD, hb, hi]
          · rw [if_neg e]
            exact getD_set_ne (Ne.symm e)
        unfold Dt.mark
        simp only
        rw [hms]
        · by_cases e : j = i
          · rw [if_pos e, if_pos e]
          · rw [if_neg e, if_neg e]
            have hjl : j < i := by omega
            split
            · rename_i hc
              have hc' : (i : Int) ≤ m.lastmark + 1 := hc
              rw [q1] at hc'
              rw [if_pos (by omega)]
              exact q3 j (by omega)
            · rw [(fold_clear _ _ _).2]
              show (if j ∈ List.range i ∧ (j : Int) > m.lastmark then none else m.marks.getD j none) = _
              rw [q1]
              by_cases hjm : (j : Int) ≤ k.lm
              · rw [if_neg (by omega), if_pos hjm]; exact q3 j hjm
              · rw [if_pos ⟨List.mem_range.mpr hjl, by omega⟩, if_neg hjm]
        · split
          · exact q2
          · rw [(fold_clear _ _ _).1]; exact q2
      · show -1 ≤ max k.lm i
        omega
      · show max k.lm i < k.nm
        omega) h
end
end Mine
namespace Mine
open PySem
open PySem.Sre (M Wait Seen)
/-- how many signs of p stand in a row -/
def cnt (p : Nat → Bool) (text : Array Nat) : Nat → Nat → Nat
  | _, 0 => 0
  | pos, n + 1 => if p (text.getD pos 0) then cnt p text (pos + 1) n + 1 else 0
theorem cnt_le (p : Nat → Bool) (text : Array Nat) : ∀ pos n, cnt p text pos n ≤ n
  | _, 0 => Nat.le_refl _
  | pos, n + 1 => by unfold cnt; split; exact Nat.succ_le_succ (cnt_le p text _ n); exact Nat.zero_le _
theorem run_eq {code text : Array Nat} {i : Nat} {p : Nat → Bool} (A : Acc code i p) : ∀ n pos found sn, ∃ sn', Sre.run code text i n pos found sn = .ok (found + cnt p text pos n, sn')
  | 0, pos, found, sn => ⟨sn, rfl⟩
  | n + 1, pos, found, sn => by
    obtain ⟨s1, h1⟩ := A (text.getD pos 0) sn
    unfold Sre.run cnt
    rw [h1]
    cases hp : p (text.getD pos 0) with
    | true =>
      obtain ⟨s2, h2⟩ := run_eq A n (pos + 1) (found + 1) s1
      refine ⟨s2, ?_⟩
      show Sre.run code text i n (pos + 1) (found + 1) s1 = _
      rw [h2, if_pos rfl]
      congr 2
      omega
    | false => exact ⟨s1, rfl⟩
/-- the machine with its frame taken off -/
def popd (m : M) (f : Sre.Frame) (rest : List Sre.Frame) : M := { m with answer := none, frames := rest, weight := m.weight - (1 + f.kept.marks.size), pc := f.pc, pos := f.pos, outermost := f.outermost }
theorem step_resume {m : M} {f : Sre.Frame} {rest : List Sre.Frame} {b : Bool} (h : m.outcome = none) (ha : m.answer = some b) (hf : m.frames = f :: rest) : m.step = M.resume (popd m f rest) f b := by
  unfold M.step
  rw [if_neg (by rw [h]; exact Bool.false_ne_true)]
  simp only [ha, hf]
  rfl
/-- the machine with a frame put on -/
def pushd (m : M) (f : Sre.Frame) (target «from» : Nat) (om : Bool) : M := { m with frames := f :: m.frames, weight := m.weight + 1 + f.kept.marks.size, pc := target, pos := «from», handed := «from», outermost := om }
theorem attempt_eq {m : M} {f : Sre.Frame} {t p : Nat} {om : Bool} (h : m.weight + 1 + f.kept.marks.size ≤ 16777216) : m.attempt f t p om = pushd m f t p om := by
  unfold M.attempt
  rw [if_neg (by omega)]
  rfl
/-- what a frame keeps of the marks -/
structure KOk (kp : Sre.Kept) (k : Mk) : Prop where
  lm : kp.lastmark = k.lm
  size : kp.marks.size ≤ k.nm
  get : ∀ i, i < kp.marks.size → kp.marks.getD i none = k.get i
  lt : (kp.marks.size : Int) ≤ k.lm + 1
section
variable {N w a : Nat} {K : Kc} {pc pos : Nat} {om : Bool} {inn : Option Nat} {L : Array Sre.Loop} {k k' : Mk} {r : Option Rs}
theorem keep_ok {m : M} {b : Bool} (h : k.At m) : KOk (m.keep b) k := by
  obtain ⟨q1, q2, q3, q4, q5⟩ := h
  unfold M.keep
  cases b with
  | false => exact ⟨q1, Nat.zero_le _, fun i hi => absurd hi (Nat.not_lt_zero _), by show (0 : Int) ≤ _; omega⟩
  | true =>
    have hs : (m.marks.extract 0 (m.lastmark + 1).toNat).size = (k.lm + 1).toNat := by
      rw [Array.size_extract, q1, q2]; omega
    refine ⟨q1, ?_, fun i hi => ?_, ?_⟩
    · show (m.marks.extract 0 (m.lastmark + 1).toNat).size ≤ _
      rw [hs]; omega
    · have hi' : i < (m.marks.extract 0 (m.lastmark + 1).toNat).size := hi
      show (m.marks.extract 0 (m.lastmark + 1).toNat).getD i none = _
      rw [hs] at hi'
      rw [← q3 i (by omega), Array.getD_eq_getD_getElem?, Array.getD_eq_getD_getElem?, Array.getElem?_extract]
      rw [if_pos (by rw [q1, q2]; omega), Nat.zero_add]
    · show (((m.marks.extract 0 (m.lastmark + 1).toNat).size : Nat) : Int) ≤ _
      rw [hs]; omega
/-- marks put back -/
theorem back_ok {m : M} {kp : Sre.Kept} (h : KOk kp k) (hs : m.marks.size = k.nm) (hm : ∀ i : Nat, (i : Int) ≤ k.lm → m.marks.getD i none = k.get i) (h4 : -1 ≤ k.lm) (h5 : k.lm < k.nm) : k.At (m.putBack kp) := by
  have hmk : (m.putBack kp).marks.size = k.nm ∧ ∀ i : Nat, (i : Int) ≤ k.lm → (m.putBack kp).marks.getD i none = k.get i := by
    show (if kp.whole then kp.marks ++ m.marks.extract kp.marks.size m.marks.size else m.marks).size = k.nm ∧ ∀ i : Nat, (i : Int) ≤ k.lm → (if kp.whole then kp.marks ++ m.marks.extract kp.marks.size m.marks.size else m.marks).getD i none = k.get i
    split
    · have hsz := h.size
      refine ⟨by rw [Array.size_append, Array.size_extract, hs]; omega, fun i hi => ?_⟩
      rw [Array.getD_eq_getD_getElem?, Array.getElem?_append]
      split
      · rename_i hlt
        rw [← Array.getD_eq_getD_getElem?]; exact h.get i hlt
      · rename_i hge
        rw [← hm i hi, Array.getElem?_extract, Array.getD_eq_getD_getElem?]
        rw [if_pos (by rw [hs]; omega)]
        congr 2
        omega
    · exact ⟨hs, hm⟩
  exact ⟨h.lm, hmk.1, hmk.2, h4, h5⟩
/-- the place behind an attempt that failed -/
theorem back_at {m m' : M} {f : Sre.Frame} {t p : Nat} {om' : Bool} (A : At m K pc pos om inn L k) (hk : KOk f.kept k) (R : Res (pushd m f t p om') m' k none) :
    At ((popd m' f m.frames).putBack f.kept) K f.pc f.pos f.outermost inn L k ∧ ((popd m' f m.frames).putBack f.kept).frames = m.frames ∧ ((popd m' f m.frames).putBack f.kept).weight = m.weight := by
  obtain ⟨n1, n2, n3⟩ := R.no rfl
  refine ⟨⟨R.kc.trans A.kc, rfl, rfl, rfl, n3.trans A.inn, n2.trans A.loops, back_ok hk R.size n1 A.mks.2.2.2.1 A.mks.2.2.2.2, rfl, R.out⟩, rfl, ?_⟩
  show m'.weight - (1 + f.kept.marks.size) = m.weight
  rw [R.weight]
  show m.weight + 1 + f.kept.marks.size - (1 + f.kept.marks.size) = m.weight
  omega
theorem popd_weight {m m' : M} {f : Sre.Frame} {t p : Nat} {om' : Bool} {r : Option Rs} (R : Res (pushd m f t p om') m' k r) : (popd m' f m.frames).weight = m.weight := by
  show m'.weight - (1 + f.kept.marks.size) = m.weight
  rw [R.weight]
  show m.weight + 1 + f.kept.marks.size - (1 + f.kept.marks.size) = m.weight
  omega
/-- the place of an attempt -/
theorem push_at {m : M} {f : Sre.Frame} {t p : Nat} {om' : Bool} (A : At m K pc pos om inn L k) : At (pushd m f t p om') K t p om' inn L k :=
  ⟨A.kc, rfl, rfl, rfl, A.inn, A.loops, A.mks, A.ans, A.out⟩
/-- first from above -/
def down (tail : Nat → Option Rs) (least : Nat) : Nat → Option Rs
  | 0 => tail least
  | d + 1 => (tail (least + d + 1)).or (down tail least d)
theorem rep_go {skip least : Nat} {tail : Nat → Option Rs} (h1 : K.code.getD (pc + 1) 0 = skip) (h2 : K.code.getD (pc + 2) 0 = least) {kp : Sre.Kept} (hk : KOk kp k) :
    ∀ d, (∀ j, j ≤ d → Ex a w K (pc + 1 + skip) (pos + least + j) om inn L k (tail (least + j))) →
    ∀ m, At m K pc (pos + least + d) om inn L k → m.weight + (w + 1 + k.nm) ≤ 16777216 → ∃ m', RB ((d + 1) * (a + 1)) (m.afterRun .giveBack ((least + d : Nat) : Int) kp) m' ∧ Res m m' k (down tail least d) := by
  intro d
  induction d with
  | zero =>
    intro ht m A hz
    have hsz := hk.size
    have e1 : m.word 1 = skip := by rw [word_eq, A.code, A.pc]; exact h1
    have hz' : m.weight + 1 + kp.marks.size ≤ 16777216 := by omega
    unfold M.afterRun
    rw [attempt_eq (f := { m.frame .giveBack with count := ((least + 0 : Nat) : Int), kept := kp }) hz', e1, A.pc, A.pos, A.om]
    obtain ⟨m2, r2, R⟩ := ht 0 (Nat.le_refl _) _ (push_at (f := { m.frame .giveBack with count := ((least + 0 : Nat) : Int), kept := kp }) A) (by
      show m.weight + 1 + kp.marks.size + w ≤ _
      omega)
    cases hr : tail (least + 0) with
    | some x =>
      rw [hr] at R
      have st := step_resume R.out R.ans R.frames
      refine ⟨_, (r2.trans (RB.step R.out)).le (by omega), ?_⟩
      rw [st]
      obtain ⟨y1, y2⟩ := R.yes x rfl
      show Res m _ k (tail least)
      rw [show tail least = some x from hr]
      exact ⟨R.kc, rfl, popd_weight R, R.out, rfl, R.size, (fun z hz => by cases hz; exact ⟨y1, y2⟩), (fun e => by cases e)⟩
    | none =>
      rw [hr] at R
      have st := step_resume R.out R.ans R.frames
      obtain ⟨B1, B2, B3⟩ := back_at A (f := { m.frame .giveBack with count := ((least + 0 : Nat) : Int), kept := kp }) hk R
      refine ⟨_, (r2.trans (RB.step R.out)).le (by omega), ?_⟩
      rw [st]
      show Res m _ k (tail least)
      rw [show tail least = none from hr]
      have hw2 : (popd m2 { m.frame .giveBack with count := ((least + 0 : Nat) : Int), kept := kp } m.frames).word 2 = least := by
        rw [word_eq]
        show m2.code.getD (m.pc + 2) 0 = least
        rw [show m2.code = K.code from congrArg Kc.code (R.kc.trans A.kc), A.pc]; exact h2
      have e : M.resume (popd m2 { m.frame .giveBack with count := ((least + 0 : Nat) : Int), kept := kp } m.frames) { m.frame .giveBack with count := ((least + 0 : Nat) : Int), kept := kp } false = ((popd m2 { m.frame .giveBack with count := ((least + 0 : Nat) : Int), kept := kp } m.frames).putBack kp).say false := by
        show (if ((least + 0 : Nat) : Int) - 1 < ((popd m2 { m.frame .giveBack with count := ((least + 0 : Nat) : Int), kept := kp } m.frames).word 2 : Int) then _ else _) = _
        rw [hw2, if_pos (by omega)]
      show Res m (M.resume (popd m2 { m.frame .giveBack with count := ((least + 0 : Nat) : Int), kept := kp } m.frames) { m.frame .giveBack with count := ((least + 0 : Nat) : Int), kept := kp } false) k none
      rw [e]
      exact ⟨B1.kc.trans A.kc.symm, rfl, B3, R.out, rfl, B1.mks.2.1, (fun z hz => by cases hz), (fun _ => ⟨B1.mks.2.2.1, B1.loops.trans A.loops.symm, B1.inn.trans A.inn.symm⟩)⟩
  | succ d ih =>
    intro ht m A hz
    have hsz := hk.size
    have e1 : m.word 1 = skip := by rw [word_eq, A.code, A.pc]; exact h1
    have hz' : m.weight + 1 + kp.marks.size ≤ 16777216 := by omega
    unfold M.afterRun
    rw [attempt_eq (f := { m.frame .giveBack with count := ((least + (d + 1) : Nat) : Int), kept := kp }) hz', e1, A.pc, A.pos, A.om]
    obtain ⟨m2, r2, R⟩ := ht (d + 1) (Nat.le_refl _) _ (push_at (f := { m.frame .giveBack with count := ((least + (d + 1) : Nat) : Int), kept := kp }) A) (by
      show m.weight + 1 + kp.marks.size + w ≤ _
      omega)
    cases hr : tail (least + (d + 1)) with
    | some x =>
      rw [hr] at R
      have st := step_resume R.out R.ans R.frames
      refine ⟨_, (r2.trans (RB.step R.out)).le (by rw [Nat.succ_mul]; omega), ?_⟩
      rw [st]
      obtain ⟨y1, y2⟩ := R.yes x rfl
      show Res m _ k ((tail (least + d + 1)).or (down tail least d))
      rw [show tail (least + d + 1) = some x from hr]
      exact ⟨R.kc, rfl, popd_weight R, R.out, rfl, R.size, (fun z hz => by cases hz; exact ⟨y1, y2⟩), (fun e => by cases e)⟩
    | none =>
      rw [hr] at R
      have st := step_resume R.out R.ans R.frames
      obtain ⟨B1, B2, B3⟩ := back_at A (f := { m.frame .giveBack with count := ((least + (d + 1) : Nat) : Int), kept := kp }) hk R
      have hw2 : (popd m2 { m.frame .giveBack with count := ((least + (d + 1) : Nat) : Int), kept := kp } m.frames).word 2 = least := by
        rw [word_eq]
        show m2.code.getD (m.pc + 2) 0 = least
        rw [show m2.code = K.code from congrArg Kc.code (R.kc.trans A.kc), A.pc]; exact h2
      have e : M.resume (popd m2 { m.frame .giveBack with count := ((least + (d + 1) : Nat) : Int), kept := kp } m.frames) { m.frame .giveBack with count := ((least + (d + 1) : Nat) : Int), kept := kp } false = ({ (popd m2 { m.frame .giveBack with count := ((least + (d + 1) : Nat) : Int), kept := kp } m.frames).putBack kp with pos := m.pos - 1 } : M).afterRun .giveBack ((least + d : Nat) : Int) kp := by
        show (if ((least + (d + 1) : Nat) : Int) - 1 < ((popd m2 { m.frame .giveBack with count := ((least + (d + 1) : Nat) : Int), kept := kp } m.frames).word 2 : Int) then _ else _) = _
        rw [hw2, if_neg (by omega)]
        rw [show ((least + (d + 1) : Nat) : Int) - 1 = ((least + d : Nat) : Int) by omega]
        rfl
      obtain ⟨m3, r3, R3⟩ := ih (fun j hj => ht j (by omega)) ({ (popd m2 { m.frame .giveBack with count := ((least + (d + 1) : Nat) : Int), kept := kp } m.frames).putBack kp with pos := m.pos - 1 } : M)
        ⟨B1.kc, B1.pc.trans A.pc, by show m.pos - 1 = _; rw [A.pos]; omega, B1.om.trans A.om, B1.inn, B1.loops, B1.mks, B1.ans, B1.out⟩ (by
          show ((popd m2 { m.frame .giveBack with count := ((least + (d + 1) : Nat) : Int), kept := kp } m.frames).putBack kp).weight + _ ≤ _
          rw [B3]; exact hz)
      refine ⟨m3, (r2.trans (RB.next R.out (st.trans e) r3)).le (by rw [Nat.succ_mul (d + 1)]; omega), ?_⟩
      show Res m m3 k ((tail (least + d + 1)).or (down tail least d))
      rw [show tail (least + d + 1) = none from hr, Option.none_or]
      refine ⟨R3.kc.trans (B1.kc.trans A.kc.symm), R3.frames, R3.weight.trans B3, R3.out, R3.ans, R3.size, R3.yes, fun e => ?_⟩
      obtain ⟨n1, n2, n3⟩ := R3.no e
      exact ⟨n1, n2.trans (B1.loops.trans A.loops.symm), n3.trans (B1.inn.trans A.inn.symm)⟩
theorem ex_rep {skip least most d : Nat} {p : Nat → Bool} {tail : Nat → Option Rs} (hl : pc < K.code.size) (ho : K.code.getD pc 0 = 24) (h1 : K.code.getD (pc + 1) 0 = skip) (h2 : K.code.getD (pc + 2) 0 = least) (h3 : K.code.getD (pc + 3) 0 = most)
    (Ac : Acc K.code (pc + 4) p) (hpl : pos ≤ K.lim) (hn : cnt p K.text pos (min most (K.lim - pos)) = least + d)
    (ht : ∀ j, j ≤ d → Ex a w K (pc + 1 + skip) (pos + least + j) om inn L k (tail (least + j))) : Ex ((d + 1) * (a + 1) + 1) (w + 1 + k.nm) K pc pos om inn L k (down tail least d) := fun m A hz => by
  have R := A.rdy hl ho
  obtain ⟨sn', hrun⟩ := run_eq Ac (text := K.text) (min most (K.lim - pos)) pos 0 ((m.seen.add 24).add (K.code.getD (pc + 4) 0))
  rw [hn, Nat.zero_add] at hrun
  have hle := cnt_le p K.text pos (min most (K.lim - pos))
  rw [hn] at hle
  have hg := rep_go h1 h2 (keep_ok (b := inn.isSome) A.mks) d ht { m with seen := sn', pos := pos + (least + d) } ⟨A.kc, A.pc, by show pos + (least + d) = _; omega, A.om, A.inn, A.loops, A.mks, A.ans, A.out⟩ hz
  obtain ⟨m', r', R'⟩ := hg
  have e : m.step = ({ m with seen := sn', pos := pos + (least + d) } : M).afterRun .giveBack ((least + d : Nat) : Int) (m.keep inn.isSome) := by
    rw [step_exec R.out R.ans R.lt]
    have e1 := A.pc
    have e2 := A.pos
    unfold M.exec
    rw [word0, R.op]
    simp only [op24]
    have w2 : ({ m with seen := m.seen.add 24 } : M).word 2 = least := by show m.code.getD (m.pc + 2) 0 = least; rw [A.code, A.pc]; exact h2
    have w3 : ({ m with seen := m.seen.add 24 } : M).word 3 = most := by show m.code.getD (m.pc + 3) 0 = most; rw [A.code, A.pc]; exact h3
    have w4 : ({ m with seen := m.seen.add 24 } : M).word 4 = K.code.getD (pc + 4) 0 := by show m.code.getD (m.pc + 4) 0 = _; rw [A.code, A.pc]
    rw [w2, w3, w4]
    rw [if_neg (by rw [A.lim, A.pos]; omega)]
    rw [A.lim, A.pos, A.pc, A.code, A.text]
    rw [show ((K.lim : Int) - (pos : Int)).toNat = K.lim - pos by omega]
    simp only [Bool.false_eq_true, if_false, hrun]
    rw [if_neg (by omega)]
    subst e1 e2
    have e4 : m.inner = inn := A.inn
    subst e4
    rfl
  refine ⟨m', RB.next A.out e r', ⟨R'.kc, R'.frames, R'.weight, R'.out, R'.ans, R'.size, R'.yes, R'.no⟩⟩
theorem ex_rep_no {least most : Nat} {p : Nat → Bool} (hl : pc < K.code.size) (ho : K.code.getD pc 0 = 24) (h2 : K.code.getD (pc + 2) 0 = least) (h3 : K.code.getD (pc + 3) 0 = most)
    (Ac : Acc K.code (pc + 4) p) (hn : cnt p K.text pos (min most (K.lim - pos)) < least) : Ex 1 0 K pc pos om inn L k none := ex_no fun m A => by
  have R := A.rdy hl ho
  obtain ⟨sn', hrun⟩ := run_eq Ac (text := K.text) (min most (K.lim - pos)) pos 0 ((m.seen.add 24).add (K.code.getD (pc + 4) 0))
  rw [Nat.zero_add] at hrun
  have w2 : ({ m with seen := m.seen.add 24 } : M).word 2 = least := by show m.code.getD (m.pc + 2) 0 = least; rw [A.code, A.pc]; exact h2
  have w3 : ({ m with seen := m.seen.add 24 } : M).word 3 = most := by show m.code.getD (m.pc + 3) 0 = most; rw [A.code, A.pc]; exact h3
  have w4 : ({ m with seen := m.seen.add 24 } : M).word 4 = K.code.getD (pc + 4) 0 := by show m.code.getD (m.pc + 4) 0 = _; rw [A.code, A.pc]
  by_cases hroom : (least : Int) > (K.lim : Int) - pos
  · refine Ev.say (pc := m.pc) (pos := m.pos) (om := m.outermost) (sn := m.seen.add 24) R.out ?_
    rw [step_exec R.out R.ans R.lt]
    unfold M.exec
    rw [word0, R.op]
    simp only [op24]
    rw [w2, w3, w4]
    rw [if_pos (by rw [A.lim, A.pos]; exact hroom)]
    rfl
  · refine Ev.say (pc := m.pc) (pos := m.pos) (om := m.outermost) (sn := sn') R.out ?_
    rw [step_exec R.out R.ans R.lt]
    unfold M.exec
    rw [word0, R.op]
    simp only [op24]
    rw [w2, w3, w4]
    rw [if_neg (by rw [A.lim, A.pos]; exact hroom)]
    have hrun' : Sre.run m.code m.text (m.pc + 4) (min most ((m.lim : Int) - (m.pos : Int)).toNat) m.pos 0 ((m.seen.add 24).add (K.code.getD (pc + 4) 0)) = .ok (cnt p K.text pos (min most (K.lim - pos)), sn') := by
      rw [A.lim, A.pos, A.pc, A.code, A.text, show ((K.lim : Int) - (pos : Int)).toNat = K.lim - pos by omega]; exact hrun
    simp only [Bool.false_eq_true, if_false, hrun']
    rw [if_pos hn]
    rfl
end
end Mine
namespace Mine
open PySem
open PySem.Sre (M Wait Seen)
section
variable {N w a a' w' : Nat} {K : Kc} {pc pos : Nat} {om : Bool} {inn : Option Nat} {L : Array Sre.Loop} {k k' : Mk} {r : Option Rs}
theorem getD_modify_self {α : Type} {L : Array α} {i : Nat} {d : α} {f : α → α} (hi : i < L.size) : (L.modify i f).getD i d = f (L.getD i d) := by
  rw [Array.getD_eq_getD_getElem?, Array.getD_eq_getD_getElem?, Array.getElem?_modify, if_pos rfl, Array.getElem?_eq_getElem hi]
  rfl
theorem modify_back {L : Array Sre.Loop} {i : Nat} {l d : Sre.Loop} {c : Int} {p : Nat} (hi : i < L.size) (hL : L.getD i d = l) :
    ((L.modify i fun l => { l with count := c, began := some p }).modify i fun l' => { l' with began := l.began }).modify i (fun l' => { l' with count := l.count }) = L := by
  apply Array.ext_getElem?
  intro j
  rw [Array.getElem?_modify, Array.getElem?_modify, Array.getElem?_modify]
  by_cases e : i = j
  · subst e
    rw [if_pos rfl, if_pos rfl, if_pos rfl]
    rw [Array.getD_eq_getD_getElem?, Array.getElem?_eq_getElem hi] at hL
    rw [Array.getElem?_eq_getElem hi]
    have hL' : L[i] = l := hL
    rw [hL']
    rfl
  · rw [if_neg e, if_neg e, if_neg e]
/-- the loop over: on to what stands behind it. From m, at the word behind MAX_UNTIL -/
theorem tail_go {i : Nat} {l : Sre.Loop} {c : Int} (hi : i < L.size) (hL : L.getD i { pc := 0, outer := none } = l) (ht : Ex a w K pc pos om l.outer L k r) {m : M} (A : At m K pc pos om (some i) L k) (hz : m.weight + (w + 1) ≤ 16777216) :
    ∃ m', RB (a + 1) (m.afterLoop .maxTail i c fun _ => false) m' ∧ Res m m' k r := by
  obtain rfl := A.pc
  obtain rfl := A.pos
  obtain rfl := A.om
  have ho : (m.loopAt i).outer = l.outer := by
    show (m.loops.getD i _).outer = _
    rw [A.loops, hL]
  unfold M.afterLoop
  rw [ho]
  have A1 : At ({ m with inner := l.outer } : M) K m.pc m.pos m.outermost l.outer L k := ⟨A.kc, A.pc, A.pos, A.om, rfl, A.loops, A.mks, A.ans, A.out⟩
  rw [attempt_eq (by show m.weight + 1 + 0 ≤ _; omega)]
  obtain ⟨m2, r2, R⟩ := ht _ (push_at (f := { ({ m with inner := l.outer } : M).frame .maxTail with loop := i, count := c, kept := ({ m with inner := l.outer } : M).keep false }) A1) (by
    show m.weight + 1 + 0 + w ≤ _
    omega)
  have st := step_resume R.out R.ans R.frames
  refine ⟨_, (r2.trans (RB.step R.out)), ?_⟩
  rw [st]
  have hw := popd_weight R
  refine ⟨R.kc, rfl, hw, R.out, rfl, R.size, fun x hx => R.yes x hx, fun e => ?_⟩
  obtain ⟨n1, n2, n3⟩ := R.no e
  exact ⟨n1, n2, A.inn.symm⟩
theorem until_end_eq {m : M} {i most : Nat} {l : Sre.Loop} (hin : m.inner = some i) (hla : m.loopAt i = l) (h2 : m.code.getD (l.pc + 2) 0 = 0) (h3 : m.code.getD (l.pc + 3) 0 = most) (hc : -1 ≤ l.count)
    (hm : ((decide (l.count + 1 < (most : Int)) || most == Sre.maxRepeat) && l.began != some m.pos) = false) : m.until_ true = m.afterLoop .maxTail i (l.count + 1) fun _ => false := by
  unfold M.until_
  simp only [hin, hla, h2, h3]
  rw [if_neg (by omega)]
  simp only [Bool.not_true, Bool.false_eq_true, if_false, hm]
theorem until_more_eq {m : M} {i most : Nat} {l : Sre.Loop} (hin : m.inner = some i) (hla : m.loopAt i = l) (h2 : m.code.getD (l.pc + 2) 0 = 0) (h3 : m.code.getD (l.pc + 3) 0 = most) (hc : -1 ≤ l.count)
    (hm : ((decide (l.count + 1 < (most : Int)) || most == Sre.maxRepeat) && l.began != some m.pos) = true) : m.until_ true = m.round .maxMore i (l.count + 1) true (m.keep true) := by
  unfold M.until_
  simp only [hin, hla, h2, h3]
  rw [if_neg (by omega)]
  simp only [Bool.not_true, Bool.false_eq_true, if_false, hm, if_true]
theorem ex_until_end {i most : Nat} {l : Sre.Loop} (hl : pc < K.code.size) (ho : K.code.getD pc 0 = 18) (hi : i < L.size) (hL : L.getD i { pc := 0, outer := none } = l)
    (h2 : K.code.getD (l.pc + 2) 0 = 0) (h3 : K.code.getD (l.pc + 3) 0 = most) (hc : -1 ≤ l.count) (hm : ((decide (l.count + 1 < (most : Int)) || most == Sre.maxRepeat) && l.began != some pos) = false)
    (ht : Ex a w K (pc + 1) pos om l.outer L k r) : Ex (a + 2) (w + 1) K pc pos om (some i) L k r := fun m A hz => by
  have R := A.rdy hl ho
  have A1 : At ({ m with seen := m.seen.add 18, pc := pc + 1 } : M) K (pc + 1) pos om (some i) L k := ⟨A.kc, rfl, A.pos, A.om, A.inn, A.loops, A.mks, A.ans, A.out⟩
  obtain ⟨m', r', R'⟩ := tail_go (c := l.count + 1) hi hL ht A1 hz
  have e : m.step = ({ m with seen := m.seen.add 18, pc := pc + 1 } : M).afterLoop .maxTail i (l.count + 1) fun _ => false := by
    rw [step_exec R.out R.ans R.lt]
    unfold M.exec
    rw [word0, R.op]
    simp only [op18]
    rw [A.pc]
    show M.until_ ({ m with seen := m.seen.add 18, pc := pc + 1 } : M) true = _
    refine until_end_eq (l := l) (most := most) A.inn ?_ ?_ ?_ hc ?_
    · show m.loops.getD i _ = l; rw [A.loops]; exact hL
    · show m.code.getD (l.pc + 2) 0 = 0; rw [A.code]; exact h2
    · show m.code.getD (l.pc + 3) 0 = most; rw [A.code]; exact h3
    · show (_ && l.began != some m.pos) = false; rw [A.pos]; exact hm
  exact ⟨m', RB.next A.out e r', ⟨R'.kc, R'.frames, R'.weight, R'.out, R'.ans, R'.size, R'.yes, R'.no⟩⟩
theorem ex_until {i most : Nat} {l : Sre.Loop} {rb rt : Option Rs} (hl : pc < K.code.size) (ho : K.code.getD pc 0 = 18) (hi : i < L.size) (hL : L.getD i { pc := 0, outer := none } = l)
    (h2 : K.code.getD (l.pc + 2) 0 = 0) (h3 : K.code.getD (l.pc + 3) 0 = most) (hc : -1 ≤ l.count) (hm : ((decide (l.count + 1 < (most : Int)) || most == Sre.maxRepeat) && l.began != some pos) = true)
    (hb : Ex a w K (l.pc + 4) pos om (some i) (L.modify i fun x => { x with count := l.count + 1, began := some pos }) k rb)
    (ht : Ex a' w' K (pc + 1) pos om l.outer L k rt) : Ex (a + a' + 3) (max w w' + 1 + k.nm) K pc pos om (some i) L k (rb.or rt) := fun m A hz => by
  have R0 := A.rdy hl ho
  have A1 : At ({ m with seen := m.seen.add 18, pc := pc + 1 } : M) K (pc + 1) pos om (some i) L k := ⟨A.kc, rfl, A.pos, A.om, A.inn, A.loops, A.mks, A.ans, A.out⟩
  have A2 : At ({ m with seen := m.seen.add 18, pc := pc + 1, loops := L.modify i fun x => { x with count := l.count + 1, began := some pos } } : M) K (pc + 1) pos om (some i) (L.modify i fun x => { x with count := l.count + 1, began := some pos }) k := ⟨A.kc, rfl, A.pos, A.om, A.inn, rfl, A.mks, A.ans, A.out⟩
  have hko : KOk (({ m with seen := m.seen.add 18, pc := pc + 1 } : M).keep true) k := keep_ok A1.mks
  have hks := hko.size
  let f : Sre.Frame := { ({ m with seen := m.seen.add 18, pc := pc + 1 } : M).frame .maxMore with loop := i, count := l.count + 1, kept := ({ m with seen := m.seen.add 18, pc := pc + 1 } : M).keep true, began := l.began }
  have hfk : f.kept.marks.size ≤ k.nm := hks
  have e : m.step = pushd ({ m with seen := m.seen.add 18, pc := pc + 1, loops := L.modify i fun x => { x with count := l.count + 1, began := some pos } } : M) f (l.pc + 4) pos om := by
    rw [step_exec R0.out R0.ans R0.lt]
    unfold M.exec
    rw [word0, R0.op]
    simp only [op18]
    rw [A.pc]
    show M.until_ ({ m with seen := m.seen.add 18, pc := pc + 1 } : M) true = _
    have hla : ({ m with seen := m.seen.add 18, pc := pc + 1 } : M).loopAt i = l := by show m.loops.getD i _ = l; rw [A.loops]; exact hL
    rw [until_more_eq (m := ({ m with seen := m.seen.add 18, pc := pc + 1 } : M)) (l := l) (most := most) A.inn hla (by show m.code.getD (l.pc + 2) 0 = 0; rw [A.code]; exact h2) (by show m.code.getD (l.pc + 3) 0 = most; rw [A.code]; exact h3) hc (by show (_ && l.began != some m.pos) = true; rw [A.pos]; exact hm)]
    unfold M.round
    rw [hla]
    rw [attempt_eq (by
      show m.weight + 1 + f.kept.marks.size ≤ _
      omega)]
    have e1 := A.loops
    have e2 := A.pos
    have e3 := A.om
    subst e1 e2 e3
    rfl
  obtain ⟨m2, r2, R⟩ := hb _ (push_at (f := f) (t := l.pc + 4) (p := pos) (om' := om) A2) (by
    show m.weight + 1 + f.kept.marks.size + w ≤ _
    omega)
  cases hr : rb with
  | some x =>
    rw [hr] at R
    have st := step_resume R.out R.ans R.frames
    obtain ⟨y1, y2⟩ := R.yes x rfl
    refine ⟨_, (RB.next A.out e (r2.trans (RB.step R.out))).le (by omega), ?_⟩
    rw [st]
    have hw := popd_weight R
    exact ⟨R.kc, rfl, hw, R.out, rfl, R.size, (fun z hz => by cases hz; exact ⟨y1, y2⟩), (fun e => by cases e)⟩
  | none =>
    rw [hr] at R
    have st := step_resume R.out R.ans R.frames
    obtain ⟨B1, B2, B3⟩ := back_at A2 (f := f) hko R
    have hB : ∀ m3 : M, m3 = ((((popd m2 f m.frames).setLoop i fun l' => { l' with began := l.began }).putBack f.kept).setLoop i fun l' => { l' with count := l.count }) → At m3 K (pc + 1) pos om (some i) L k := by
      intro m3 e3
      subst e3
      refine ⟨B1.kc, rfl, A.pos, A.om, B1.inn, ?_, B1.mks, rfl, R.out⟩
      show ((m2.loops.modify i fun l' => { l' with began := l.began }).modify i fun l' => { l' with count := l.count }) = L
      rw [show m2.loops = _ from B1.loops]
      exact modify_back hi hL
    have e3 : M.resume (popd m2 f m.frames) f false = M.afterLoop ((((popd m2 f m.frames).setLoop i fun l' => { l' with began := l.began }).putBack f.kept).setLoop i fun l' => { l' with count := l.count }) .maxTail i (l.count + 1) fun _ => false := by
      show M.afterLoop ((((popd m2 f m.frames).setLoop i fun l' => { l' with began := l.began }).putBack f.kept).setLoop i fun l' => { l' with count := l.count + 1 - 1 }) .maxTail i (l.count + 1) (fun _ => false) = _
      rw [show l.count + 1 - 1 = l.count by omega]
    have hwt : ((((popd m2 f m.frames).setLoop i fun l' => { l' with began := l.began }).putBack f.kept).setLoop i fun l' => { l' with count := l.count }).weight = m.weight := B3
    obtain ⟨m4, r4, R4⟩ := tail_go (c := l.count + 1) hi hL ht (hB _ rfl) (by rw [hwt]; omega)
    refine ⟨m4, (RB.next A.out e (r2.trans (RB.next R.out (st.trans e3) r4))).le (by omega), ?_⟩
    rw [Option.none_or]
    refine ⟨R4.kc.trans (B1.kc.trans A.kc.symm), R4.frames, R4.weight.trans hwt, R4.out, R4.ans, R4.size, R4.yes, fun e => ?_⟩
    obtain ⟨n1, n2, n3⟩ := R4.no e
    exact ⟨n1, n2.trans ((hB _ rfl).loops.trans A.loops.symm), n3.trans ((hB _ rfl).inn.trans A.inn.symm)⟩
theorem ex_repeat {skip : Nat} (hl : pc < K.code.size) (ho : K.code.getD pc 0 = 23) (h1 : K.code.getD (pc + 1) 0 = skip)
    (h : Ex a w K (pc + 1 + skip) pos om (some L.size) (L.push { pc := pc, outer := inn }) k r) : Ex (a + 2) (w + 1) K pc pos om inn L k r := fun m A hz => by
  have R0 := A.rdy hl ho
  have A2 : At ({ m with seen := m.seen.add 23, loops := L.push { pc := pc, outer := inn }, inner := some L.size } : M) K pc pos om (some L.size) (L.push { pc := pc, outer := inn }) k := ⟨A.kc, A.pc, A.pos, A.om, rfl, rfl, A.mks, A.ans, A.out⟩
  let f : Sre.Frame := { ({ m with seen := m.seen.add 23, loops := L.push { pc := pc, outer := inn }, inner := some L.size } : M).frame .closeLoop with loop := L.size }
  have e : m.step = pushd ({ m with seen := m.seen.add 23, loops := L.push { pc := pc, outer := inn }, inner := some L.size } : M) f (pc + 1 + skip) pos om := by
    rw [step_exec R0.out R0.ans R0.lt]
    unfold M.exec
    rw [word0, R0.op]
    simp only [op23]
    rw [attempt_eq (by show m.weight + 1 + 0 ≤ _; omega)]
    have w1 : m.word 1 = skip := by rw [word_eq, A.code, A.pc]; exact h1
    have e0 := A.pc
    have e1 := A.loops
    have e2 := A.pos
    have e3 := A.om
    have e4 := A.inn
    subst e0 e1 e2 e3 e4 w1
    rfl
  obtain ⟨m2, r2, R⟩ := h _ (push_at (f := f) (t := pc + 1 + skip) (p := pos) (om' := om) A2) (by
    show m.weight + 1 + 0 + w ≤ _
    omega)
  have st := step_resume R.out R.ans R.frames
  refine ⟨_, (RB.next A.out e (r2.trans (RB.step R.out))).le (by omega), ?_⟩
  rw [st]
  have hw := popd_weight R
  refine ⟨R.kc, rfl, hw, R.out, rfl, R.size, fun x hx => R.yes x hx, fun e => ?_⟩
  obtain ⟨n1, n2, n3⟩ := R.no e
  refine ⟨n1, ?_, ?_⟩
  · show m2.loops.pop = m.loops
    rw [n2, A.loops]
    show (L.push _).pop = L
    exact Array.pop_push
  · show (m2.loops.getD L.size _).outer = m.inner
    rw [n2, A.inn]
    show ((L.push { pc := pc, outer := inn }).getD L.size _).outer = inn
    rw [Array.getD_eq_getD_getElem?, Array.getElem?_push_size]
    rfl
/-! ### the search -/
/-- the machine comes to its end: found from s with x, or not found -/
def Runs (N : Nat) (m : M) (nm : Nat) (res : Option (Nat × Rs)) : Prop :=
  ∃ m', RB N m m' ∧ m'.marks.size = nm ∧ match res with
    | none => m'.outcome = some .failed
    | some (s, x) => m'.outcome = some .matched ∧ m'.start = s ∧ m'.handed = x.hd ∧ x.k.At m'
theorem Runs.le {N N' : Nat} {m : M} {nm : Nat} {res : Option (Nat × Rs)} (h : Runs N m nm res) (hN : N ≤ N') : Runs N' m nm res := by
  obtain ⟨m', r, h⟩ := h
  exact ⟨m', r.le hN, h⟩
def Kc.at (K : Kc) (s : Nat) (must : Bool) : Kc := { K with start := s, must := must }
def k0 (nm : Nat) : Mk := ⟨-1, fun _ => none, nm⟩
/-- a machine between two starts -/
structure Idle (m : M) (K : Kc) (pc : Nat) (nm : Nat) : Prop where
  code : m.code = K.code
  text : m.text = K.text
  lim : m.lim = K.lim
  last : m.lastStart = K.lastStart
  whole : m.wholeText = K.whole
  must : m.mustAdvance = K.must
  pc : m.pc = pc
  inn : m.inner = none
  loops : m.loops = #[]
  frames : m.frames = []
  weight : m.weight = 0
  ans : m.answer = none
  out : m.outcome = none
  size : m.marks.size = nm
def firstFrom (r : Nat → Option Rs) : Nat → Nat → Option (Nat × Rs)
  | _, 0 => none
  | s, n + 1 => match r s with
    | some x => some (s, x)
    | none => firstFrom r (s + 1) n
theorem answer_end {m : M} (ho : m.outcome = none) (hf : m.frames = []) {b : Bool} (ha : m.answer = some b) : m.step = { m with outcome := some (if b then .matched else .failed) } := by
  unfold M.step
  rw [if_neg (by rw [ho]; exact Bool.false_ne_true)]
  simp only [ha, hf]
/-- one start tried -/
theorem at_go {m : M} {nm s : Nat} {first : Bool} (I : Idle m K pc nm) (hw : w + 1 ≤ 16777216) (h : Ex a w (K.at s K.must) pc s first none #[] (k0 nm) r) :
    ∃ m', RB a (m.attemptAt s first) m' ∧ m'.outcome = none ∧ m'.answer = some r.isSome ∧ m'.marks.size = nm ∧ m'.frames = [{ wait := .nextStart, pc := pc, pos := s, outermost := first }] ∧
      (∀ x, r = some x → m'.start = s ∧ m'.handed = x.hd ∧ x.k.At m') ∧ (r = none → Idle (popd m' { wait := .nextStart, pc := pc, pos := s, outermost := first } []) K pc nm) := by
  unfold M.attemptAt
  rw [attempt_eq (by show m.weight + 1 + 0 ≤ _; rw [I.weight]; omega)]
  rw [I.pc]
  have A : At ({ m with start := s, pos := s, lastmark := -1, lastindex := -1 } : M) (K.at s K.must) pc s m.outermost none #[] (k0 nm) := by
    refine ⟨?_, I.pc, rfl, rfl, I.inn, I.loops, ⟨rfl, I.size, fun i hi => absurd hi (by show ¬ (i : Int) ≤ -1; omega), by show (-1 : Int) ≤ -1; omega, by show (-1 : Int) < nm; omega⟩, I.ans, I.out⟩
    show kcOf _ = _
    unfold kcOf Kc.at
    simp only [I.code, I.text, I.lim, I.last, I.whole, I.must]
  obtain ⟨m2, r2, R⟩ := h _ (push_at (f := { wait := .nextStart, pc := pc, pos := s, outermost := first }) (t := pc) (p := s) (om' := first) A) (by
    show m.weight + 1 + 0 + w ≤ _
    rw [I.weight]; omega)
  refine ⟨m2, r2, R.out, R.ans, R.size, ?_, ?_⟩
  · rw [R.frames]
    show { wait := .nextStart, pc := pc, pos := s, outermost := first } :: m.frames = _
    rw [I.frames]
  · refine ⟨fun x hr => ?_, fun hr => ?_⟩
    · obtain ⟨y1, y2⟩ := R.yes x hr
      refine ⟨?_, y2, y1⟩
      exact congrArg Kc.start (R.kc.trans A.kc)
    · obtain ⟨n1, n2, n3⟩ := R.no hr
      have hkc := R.kc.trans A.kc
      refine ⟨congrArg Kc.code hkc, congrArg Kc.text hkc, congrArg Kc.lim hkc, congrArg Kc.lastStart hkc, congrArg Kc.whole hkc, congrArg Kc.must hkc, rfl, n3.trans A.inn, n2.trans A.loops, rfl, ?_, rfl, R.out, R.size⟩
      show m2.weight - (1 + 0) = 0
      rw [R.weight]
      show m.weight + 1 + 0 - (1 + 0) = 0
      rw [I.weight]
theorem Idle.must' {m : M} {nm : Nat} {b : Bool} (I : Idle m K pc nm) : Idle { m with mustAdvance := b } { K with must := b } pc nm := ⟨I.code, I.text, I.lim, I.last, I.whole, rfl, I.pc, I.inn, I.loops, I.frames, I.weight, I.ans, I.out, I.size⟩
/-- from s on, with no first set -/
theorem search_go {nm : Nat} {rs : Nat → Option Rs} (hfs : ∀ m : M, m.code = K.code → m.hasFirstSet = false) (hw : w + 1 ≤ 16777216) :
    ∀ n s first (m : M), Idle m K pc nm → K.lastStart + 1 = s + n → (0 < n) →
    (Ex a w (K.at s K.must) pc s first none #[] (k0 nm) (rs s)) →
    (∀ s', s < s' → s' ≤ K.lastStart → Ex a w (K.at s' false) pc s' false none #[] (k0 nm) (rs s')) →
    Runs (n * (a + 1) + 1) (m.attemptFrom s first) nm (firstFrom rs s n) := by
  intro n
  induction n generalizing K with
  | zero => intro s first m I hn h0; exact absurd h0 (Nat.lt_irrefl _)
  | succ n ih =>
    intro s first m I hn _ hx hxs
    have haf : m.attemptFrom s first = m.attemptAt s first := by
      unfold M.attemptFrom
      rw [hfs m I.code]
      rfl
    rw [haf]
    obtain ⟨m2, r2, ho, ha, hsz, hf, hres⟩ := at_go I hw hx
    have st := step_resume ho ha hf
    unfold firstFrom
    cases hr : rs s with
    | some x =>
      rw [hr] at ha st
      obtain ⟨y0, y1, y2⟩ := hres.1 x hr
      have e : m2.step = (popd m2 { wait := .nextStart, pc := pc, pos := s, outermost := first } []).say true := st
      have e2 := answer_end (m := (popd m2 { wait := .nextStart, pc := pc, pos := s, outermost := first } []).say true) ho rfl (b := true) rfl
      refine ⟨_, (r2.trans (RB.next ho e (RB.step ho))).le (by rw [Nat.succ_mul]; omega), ?_⟩
      rw [e2]
      exact ⟨hsz, rfl, y0, y1, y2⟩
    | none =>
      rw [hr] at ha st
      have hI : Idle (popd m2 { wait := .nextStart, pc := pc, pos := s, outermost := first } []) K pc nm := hres.2 hr
      cases n with
      | zero =>
        have e : m2.step = (popd m2 { wait := .nextStart, pc := pc, pos := s, outermost := first } []).say false := by
          rw [st]
          show (if s < (popd m2 { wait := .nextStart, pc := pc, pos := s, outermost := first } []).lastStart then _ else _) = _
          exact if_neg (by rw [hI.last]; omega)
        have e2 := answer_end (m := (popd m2 { wait := .nextStart, pc := pc, pos := s, outermost := first } []).say false) ho rfl (b := false) rfl
        refine ⟨_, (r2.trans (RB.next ho e (RB.step ho))).le (by omega), ?_⟩
        rw [e2]
        exact ⟨hsz, rfl⟩
      | succ n =>
        have e : m2.step = ({ popd m2 { wait := .nextStart, pc := pc, pos := s, outermost := first } [] with mustAdvance := false } : M).attemptFrom (s + 1) false := by
          rw [st]
          show (if s < (popd m2 { wait := .nextStart, pc := pc, pos := s, outermost := first } []).lastStart then _ else _) = _
          exact if_pos (by rw [hI.last]; omega)
        obtain ⟨m3, r3, h3⟩ := ih (K := { K with must := false }) hfs (s + 1) false _ hI.must' (by show K.lastStart + 1 = _; omega) (by omega) (hxs (s + 1) (by omega) (by omega)) (fun s' h1 h2 => hxs s' (by omega) h2)
        exact ⟨m3, (r2.trans (RB.next ho e r3)).le (by rw [Nat.succ_mul (n + 1)]; omega), h3⟩
end
end Mine
namespace Mine
open PySem PySem.W PySem.Spec PySem.Calls PyProof.Rows
theorem slot_re_search : Slot "re.Pattern" "search" "re.Pattern.search" :=
  .of (owner := "re.Pattern") (n := "search") (by rw [typeLookup_type, builtinLookup_eq_fast]; kernel_rfl) (by decide +kernel) (by decide +kernel) (by decide +kernel)
    (by first | exact .inl (by decide +kernel) | exact .inr (by decide +kernel)) (by rw [isSubtype_type]; kernel_rfl)
theorem type_re_search : typeOf (.builtin "re.Pattern.search") = pure (.type "method_descriptor") := by show builtinType _ = _; rw [builtinType_eq_fast]; kernel_rfl
theorem entry_re_search : entryFor table "re.Pattern.search" = some Builtin.«re.Pattern.search» := entryFor_of_tree (by kernel_rfl)
theorem slot_re_fullmatch : Slot "re.Pattern" "fullmatch" "re.Pattern.fullmatch" :=
  .of (owner := "re.Pattern") (n := "fullmatch") (by rw [typeLookup_type, builtinLookup_eq_fast]; kernel_rfl) (by decide +kernel) (by decide +kernel) (by decide +kernel)
    (by first | exact .inl (by decide +kernel) | exact .inr (by decide +kernel)) (by rw [isSubtype_type]; kernel_rfl)
theorem type_re_fullmatch : typeOf (.builtin "re.Pattern.fullmatch") = pure (.type "method_descriptor") := by show builtinType _ = _; rw [builtinType_eq_fast]; kernel_rfl
theorem entry_re_fullmatch : entryFor table "re.Pattern.fullmatch" = some Builtin.«re.Pattern.fullmatch» := entryFor_of_tree (by kernel_rfl)
theorem slot_re_group : Slot "re.Match" "group" "re.Match.group" :=
  .of (owner := "re.Match") (n := "group") (by rw [typeLookup_type, builtinLookup_eq_fast]; kernel_rfl) (by decide +kernel) (by decide +kernel) (by decide +kernel)
    (by first | exact .inl (by decide +kernel) | exact .inr (by decide +kernel)) (by rw [isSubtype_type]; kernel_rfl)
theorem type_re_group : typeOf (.builtin "re.Match.group") = pure (.type "method_descriptor") := by show builtinType _ = _; rw [builtinType_eq_fast]; kernel_rfl
theorem entry_re_group : entryFor table "re.Match.group" = some Builtin.«re.Match.group» := entryFor_of_tree (by kernel_rfl)
theorem args_re_search (a b : Value) : argsOk "re.Pattern.search" ⟨[a, b], []⟩ := by rfl
theorem args_re_group (a b : Value) : argsOk "re.Match.group" ⟨[a, b], []⟩ := by rfl
theorem args_re_fullmatch (a b : Value) : argsOk "re.Pattern.fullmatch" ⟨[a, b], []⟩ := by rfl
theorem plain_Pattern : PlainAttrs "re.Pattern" :=
  ⟨⟨"object.__getattribute__", by rw [typeLookup_type, builtinLookup_eq_fast]; kernel_rfl, by kernel_rfl⟩, by rw [typeLookup_type, builtinLookup_eq_fast]; kernel_rfl⟩
theorem plain_Match : PlainAttrs "re.Match" :=
  ⟨⟨"object.__getattribute__", by rw [typeLookup_type, builtinLookup_eq_fast]; kernel_rfl, by kernel_rfl⟩, by rw [typeLookup_type, builtinLookup_eq_fast]; kernel_rfl⟩
theorem match_no_bool : typeLookup (.type "re.Match") "__bool__" = pure none := by rw [typeLookup_type, builtinLookup_eq_fast]; kernel_rfl
theorem match_no_len : typeLookup (.type "re.Match") "__len__" = pure none := by rw [typeLookup_type, builtinLookup_eq_fast]; kernel_rfl
end Mine
namespace Mine
open PySem PySem.W PySem.Spec PySem.Calls PyProof.Rows
open PySem.Builtin.Re
theorem named3 (id f : String) (v : Value) : reNamed id f ["string", "pos", "endpos"] 1 [v] [] = pure [some v, none, none] := by rfl
section
variable {Mo : Model} {A : Around} {E : Value → Shared → Prop} {s : Shared}
theorem wp_drive {m' : Sre.M} (ho : m'.outcome.isSome = true) {Q : Sre.M → Shared → Prop} (hq : Q m' s) : ∀ turns (m : Sre.M) k, k < 4 * turns → Sre.M.runFor k m = m' → wpAny Mo A (reDrive turns m) Q E s
  | 0, m, k, h, _ => absurd h (by omega)
  | turns + 1, m, k, h, e => by
    unfold reDrive
    show wpAny Mo A (if (Sre.M.runFor 4 m).outcome.isSome = true then pure (Sre.M.runFor 4 m) else do rule "sre.turn"; reDrive turns (Sre.M.runFor 4 m)) Q E s
    by_cases h1 : (Sre.M.runFor 4 m).outcome.isSome = true
    · rw [if_pos h1]
      have : Sre.M.runFor 4 m = m' := by
        by_cases hk : k ≤ 4
        · have e4 := runFor_add k (4 - k) m
          rw [show k + (4 - k) = 4 by omega, e, runFor_done ho] at e4
          exact e4
        · have e4 := runFor_add 4 (k - 4) m
          rw [show 4 + (k - 4) = k by omega, e, runFor_done h1] at e4
          exact e4.symm
      rw [this]
      exact wpAny_pure hq
    · rw [if_neg h1]
      have hk : 4 < k := by
        rcases Nat.lt_or_ge 4 k with hk | hk
        · exact hk
        · exfalso
          apply h1
          have e4 := runFor_add k (4 - k) m
          rw [show k + (4 - k) = 4 by omega, e, runFor_done ho] at e4
          rw [e4]; exact ho
      refine wpAny_bind (wpAny_rule (wp_drive ho hq turns _ (k - 4) (by omega) ?_))
      rw [← runFor_add, show 4 + (k - 4) = k by omega, e]
theorem wp_tags {Q : PUnit → Shared → Prop} (hq : Q ⟨⟩ s) (c : Nat → Bool) (g : Nat → String) : ∀ l : List Nat, wpAny Mo A (forIn l PUnit.unit (fun i (_ : PUnit) => if c i = true then (do rule (g i); pure (ForInStep.yield PUnit.unit)) else (do pure PUnit.unit; pure (ForInStep.yield PUnit.unit)))) Q E s
  | [] => wpAny_pure hq
  | i :: l => by
    rw [List.forIn_cons]
    refine wpAny_bind ?_
    by_cases h : c i = true
    · rw [if_pos h]
      exact wpAny_bind (wpAny_rule (wpAny_pure (wp_tags hq c g l)))
    · rw [if_neg h]
      exact wpAny_pure (wp_tags hq c g l)
theorem wp_run_yes {m m' : Sre.M} {N : Nat} (h : RB N m m') (hN : N < 2 ^ 60) (ho : m'.outcome = some .matched) {Q : Option Sre.M → Shared → Prop} (hq : Q (some m') s) : wpAny Mo A (reRunToEnd m) Q E s := by
  obtain ⟨k, hk, e⟩ := h
  unfold reRunToEnd
  refine wpAny_bind (wp_drive (by rw [ho]; rfl) ?_ _ m k (by omega) e)
  refine wpAny_bind (wp_tags ?_ (fun i => m'.seen.has i) (fun i => Sre.names.getD i "") _)
  rw [ho]
  exact wpAny_pure hq
theorem wp_run_no {m m' : Sre.M} {N : Nat} (h : RB N m m') (hN : N < 2 ^ 60) (ho : m'.outcome = some .failed) {Q : Option Sre.M → Shared → Prop} (hq : Q none s) : wpAny Mo A (reRunToEnd m) Q E s := by
  obtain ⟨k, hk, e⟩ := h
  unfold reRunToEnd
  refine wpAny_bind (wp_drive (by rw [ho]; rfl) ?_ _ m k (by omega) e)
  refine wpAny_bind (wp_tags ?_ (fun i => m'.seen.has i) (fun i => Sre.names.getD i "") _)
  rw [ho]
  exact wpAny_pure hq
end
/-- a pattern of the top -/
structure Pat (K : Frag) (n : String) (pa : Addr) (code : List Nat) (groups : Nat) : Prop where
  glob : nsIn K mainGlobals (Str.ofString n) = some (some (.ref pa))
  obj : ∃ v0 v1 v3 v4 ca items sz, K.lookup pa = some { cls := .type "re.Pattern", data := .fields #[v0, v1, .int groups 0, v3, v4, .ref ca, .int 0 0] } ∧
    K.lookup ca = some { cls := .type "tuple", data := .seq items sz } ∧ (items.map reRawOf).map (·.toNat) = code.toArray
/-- a match object -/
def MObj (l : List Nat) (ta : Addr) (o : Obj) : Prop := ∃ t v1 v2 v3 v4, o = { cls := .type "re.Match", data := .fields #[.str (tx l) t, v1, v2, v3, v4, .ref ta] }
/-- the spans of the groups -/
def gsp (x : Mk) (g : Nat) : Option Nat × Option Nat := if ((2 * g + 1 : Nat) : Int) ≤ x.lm then (x.get (2 * g), x.get (2 * g + 1)) else (none, none)
def spans (groups s : Nat) (x : Rs) : List Int := (s : Int) :: (x.hd : Int) :: (List.range groups).flatMap fun g => match gsp x.k g with
  | (some b, some e) => [(b : Int), (e : Int)]
  | _ => [-1, -1]
def spOk (groups : Nat) (x : Mk) : Prop := ∀ g, g < groups → ∀ b e, gsp x g = (some b, some e) → b ≤ e
section
variable {C : Cx} {E : Value → Shared → Prop} {ρ : Loc} {σ : Sto} {Q : AV → Loc → Sto → Prop} {s : Shared}
theorem pat_at {n : String} {pa : Addr} {code : List Nat} {groups : Nat} (G : C.Gl) (P : Pat C.K n pa code groups) (hs : Rel C ρ σ s) :
    ∃ v0 v1 v3 v4 ca items sz, s.heap.get? pa = some { cls := .type "re.Pattern", data := .fields #[v0, v1, .int groups 0, v3, v4, .ref ca, .int 0 0] } ∧
    s.heap.get? ca = some { cls := .type "tuple", data := .seq items sz } ∧ (items.map reRawOf).map (·.toNat) = code.toArray := by
  obtain ⟨v0, v1, v3, v4, ca, items, sz, h1, h2, h3⟩ := P.obj
  obtain ⟨m, F, _⟩ := hs.fr
  exact ⟨v0, v1, v3, v4, ca, items, sz, F.keep _ _ (G.X _ _ h1), F.keep _ _ (G.X _ _ h2), h3⟩
theorem textOf_str {x : Str} {t : Tok} : reTextOf (.str x t) = pure (x.cps, 0) := rfl
theorem wp_rawItems {Mo : Model} {A : Around} {E : Value → Shared → Prop} {a : Addr} {o : Obj} {items n} {Q : Array Int → Shared → Prop} (ho : s.heap.get? a = some o) (hd : o.data = .seq items n) (h : Q (items.map reRawOf) s) : wpAny Mo A (reRawItems (.ref a)) Q E s := by
  unfold reRawItems
  exact wpAny_bind (wpAny_seqItems ho hd (wpAny_pure h))
theorem wp_target {Mo : Model} {A : Around} {E : Value → Shared → Prop} {id f : String} {n : String} {pa : Addr} {code : List Nat} {groups : Nat} (G : C.Gl) (P : Pat C.K n pa code groups) (hs : Rel C ρ σ s) {l : List Nat} {t : Tok} {Q : ReTarget → Shared → Prop}
    (hl : l.length < 2 ^ 60)
    (h : Q { pattern := .ref pa, string := .str (tx l) t, code := code.toArray, text := l.toArray, kind := 0, groups := groups, pos := 0, lim := l.length } s) : wpAny Mo A (reTarget id f ⟨[.ref pa, .str (tx l) t], []⟩) Q E s := by
  obtain ⟨v0, v1, v3, v4, ca, items, sz, h1, h2, h3⟩ := pat_at G P hs
  unfold reTarget
  show wpAny Mo A (reNamed id f ["string", "pos", "endpos"] 1 [.str (tx l) t] [] >>= _) Q E s
  rw [named3]
  refine wpAny_bind (wpAny_pure ?_)
  refine wpAny_bind (wpAny_pure ?_)
  refine wpAny_bind (wpAny_pure ?_)
  refine wpAny_bind (wpAny_fieldsOf h1 rfl ?_)
  rw [textOf_str]
  refine wpAny_bind (wpAny_pure ?_)
  refine wpAny_bind (wpAny_pure ?_)
  refine wpAny_bind (wp_rawItems h2 rfl ?_)
  rw [h3]
  refine wpAny_pure ?_
  have e1 : min (2 ^ 63 - 1 : Int).toNat (tx l).cps.size = l.length := by
    rw [show (tx l).cps.size = l.length from tx_len l]
    rw [show (2 ^ 63 - 1 : Int).toNat = 2 ^ 63 - 1 by decide]
    omega
  have e2 : min (0 : Int).toNat (tx l).cps.size = 0 := Nat.zero_min _
  show Q { pattern := .ref pa, string := .str (tx l) t, code := code.toArray, text := l.toArray, kind := 0, groups := ((groups : Int)).toNat, pos := min (0 : Int).toNat (tx l).cps.size, lim := min (2 ^ 63 - 1 : Int).toNat (tx l).cps.size } s
  rw [e1, e2]
  exact h
theorem flatMap_raw (groups : Nat) (m : Sre.M) (x : Mk) (hx : x.At m) : ∀ l : List Nat, (∀ g ∈ l, g < groups) → RVs ((l.flatMap fun g => match gsp x g with | (some b, some e) => [(b : Int), (e : Int)] | _ => [-1, -1]).map AV.int)
    (l.flatMap fun g => match if ((2 * g + 1 : Nat) : Int) ≤ m.lastmark then (m.marks.getD (2 * g) none, m.marks.getD (2 * g + 1) none) else (none, none) with | (some b, some e) => [rawInt b, rawInt e] | _ => [rawInt (-1), rawInt (-1)])
  | [], _ => .nil
  | g :: l, hg => by
    rw [List.flatMap_cons, List.flatMap_cons, List.map_append]
    refine RVs.append ?_ (flatMap_raw groups m x hx l fun g' h' => hg g' (.tail _ h'))
    have e : (if ((2 * g + 1 : Nat) : Int) ≤ m.lastmark then (m.marks.getD (2 * g) none, m.marks.getD (2 * g + 1) none) else (none, none)) = gsp x g := by
      unfold gsp
      rw [hx.1]
      by_cases hle : ((2 * g + 1 : Nat) : Int) ≤ x.lm
      · rw [if_pos hle, if_pos hle, hx.2.2.1 (2 * g) (by omega), hx.2.2.1 (2 * g + 1) hle]
      · rw [if_neg hle, if_neg hle]
    rw [e]
    rcases gsp x g with ⟨_ | b, _ | e⟩
    · exact .cons ⟨_, rfl⟩ (.cons ⟨_, rfl⟩ .nil)
    · exact .cons ⟨_, rfl⟩ (.cons ⟨_, rfl⟩ .nil)
    · exact .cons ⟨_, rfl⟩ (.cons ⟨_, rfl⟩ .nil)
    · exact .cons ⟨_, rfl⟩ (.cons ⟨_, rfl⟩ .nil)
theorem flatMap_len2 {α β : Type} {f : α → List β} (h : ∀ a, (f a).length = 2) : ∀ l : List α, (l.flatMap f).length = 2 * l.length
  | [] => rfl
  | a :: l => by rw [List.flatMap_cons, List.length_append, h, flatMap_len2 h l, List.length_cons]; omega
theorem wp_newMatch {Mo : Model} {A : Around} {E : Value → Shared → Prop} {pa : Value} {l : List Nat} {t : Tok} {groups pos lim st : Nat} {m : Sre.M} {x : Rs} (hst : m.start = st) (hh : m.handed = x.hd) (hx : x.k.At m) (hok : spOk groups x.k) (hg : groups ≤ 100) (hs : Rel C ρ σ s) {Q : Value → Shared → Prop}
    (h : ∀ ma ta s', Rel C ρ ((ma, .pred (MObj l ta)) :: (ta, .tuple ((spans groups st x).map .int)) :: σ) s' → Q (.ref ma) s') : wpAny Mo A (reNewMatch pa (.str (tx l) t) groups pos lim m) Q E s := by
  unfold reNewMatch
  dsimp only
  rw [if_neg]
  · refine wpAny_bind (wpAny_newTuple ?_ ?_)
    · refine wpAny_newObj_type (h _ _ _ (Rel.push (ao := .pred (MObj l s.heap.objs.size)) (hs.push (ao := .tuple ((spans groups st x).map .int)) ⟨_, _, ?_, rfl⟩ rfl s.toks) ⟨_, _, _, _, _, rfl⟩ rfl s.toks)) ?_
      · rw [hst, hh]
        exact .cons ⟨_, rfl⟩ (.cons ⟨_, rfl⟩ (flatMap_raw groups m x.k hx _ fun g hg => List.mem_range.mp hg))
      · show (6 : Nat) ≤ _
        decide
    · rw [List.length_cons, List.length_cons, flatMap_len2, List.length_range, sizeLine_eq]
      · omega
      · intro g
        split <;> rfl
  · rw [Bool.not_eq_true, List.any_eq_false]
    intro g hg
    have hg := List.mem_range.mp hg
    have hgs := hok g hg
    unfold gsp at hgs
    split
    · rename_i b e h1 h2
      by_cases hle : ((2 * g + 1 : Nat) : Int) ≤ m.lastmark
      · have hle' : ((2 * g + 1 : Nat) : Int) ≤ x.k.lm := by rw [← hx.1]; exact hle
        rw [if_pos hle'] at hgs
        have := hgs b e (by rw [← hx.2.2.1 (2 * g) (by omega), ← hx.2.2.1 (2 * g + 1) hle', h1, h2])
        simp; omega
      · simp; omega
    · simp
/-- a search that the machine has run -/
theorem b_search {n : String} {pa : Addr} {code : List Nat} {groups N : Nat} {l : List Nat} {res : Option (Nat × Rs)} (G : C.Gl) (P : Pat C.K n pa code groups) (hl : l.length < 2 ^ 60) (hg : groups ≤ 100) (hN : N < 2 ^ 60)
    (hr : Runs N (Sre.forSearch code.toArray l.toArray groups 0 l.length false) (2 * groups) res)
    (hno : res = none → Q .none ρ σ)
    (hyes : ∀ st x, res = some (st, x) → spOk groups x.k ∧ ∀ ma ta, Q (.ref ma) ρ ((ma, .pred (MObj l ta)) :: (ta, .tuple ((spans groups st x).map .int)) :: σ)) : ACall C E (.builtin "re.Pattern.search") [.ref pa, .str (tx l)] Q ρ σ := by
  intro vs hv s hs
  obtain ⟨v1, v2, rfl, rfl, t, rfl⟩ := RVs.two' hv
  obtain ⟨_, _, _, _, _, _, _, h1, _⟩ := pat_at G P hs
  refine wpAny_call_entry slot_re_search ⟨_, h1, rfl⟩ entry_re_search ?_ (args_re_search _ _)
  unfold Builtin.«re.Pattern.search»
  refine wpAny_bind (wp_target G P hs hl ?_)
  unfold reAnswer
  obtain ⟨m', r, hsz, hres⟩ := hr
  cases res with
  | none =>
    refine wpAny_bind (wp_run_no r hN hres ?_)
    exact wpAny_pure ⟨_, rfl, .none, ρ, σ, rfl, hs, hno rfl⟩
  | some sx =>
    obtain ⟨st, x⟩ := sx
    obtain ⟨ho, h2, h3, h4⟩ := hres
    obtain ⟨hok, hq⟩ := hyes st x rfl
    refine wpAny_bind (wp_run_yes r hN ho ?_)
    refine wpAny_bind (wp_newMatch h2 h3 h4 hok hg hs fun ma ta s' hs' => ?_)
    exact wpAny_pure ⟨_, rfl, .ref ma, ρ, _, rfl, hs', hq ma ta⟩
theorem b_fullmatch {n : String} {pa : Addr} {code : List Nat} {groups N : Nat} {l : List Nat} {res : Option (Nat × Rs)} (G : C.Gl) (P : Pat C.K n pa code groups) (hl : l.length < 2 ^ 60) (hg : groups ≤ 100) (hN : N < 2 ^ 60)
    (hr : Runs N (Sre.forMatch code.toArray l.toArray groups 0 l.length true false) (2 * groups) res)
    (hno : res = none → Q .none ρ σ)
    (hyes : ∀ st x, res = some (st, x) → spOk groups x.k ∧ ∀ ma ta, Q (.ref ma) ρ ((ma, .pred (MObj l ta)) :: (ta, .tuple ((spans groups st x).map .int)) :: σ)) : ACall C E (.builtin "re.Pattern.fullmatch") [.ref pa, .str (tx l)] Q ρ σ := by
  intro vs hv s hs
  obtain ⟨v1, v2, rfl, rfl, t, rfl⟩ := RVs.two' hv
  obtain ⟨_, _, _, _, _, _, _, h1, _⟩ := pat_at G P hs
  refine wpAny_call_entry slot_re_fullmatch ⟨_, h1, rfl⟩ entry_re_fullmatch ?_ (args_re_fullmatch _ _)
  unfold Builtin.«re.Pattern.fullmatch»
  refine wpAny_bind (wp_target G P hs hl ?_)
  unfold reAnswer
  obtain ⟨m', r, hsz, hres⟩ := hr
  cases res with
  | none =>
    refine wpAny_bind (wp_run_no r hN hres ?_)
    exact wpAny_pure ⟨_, rfl, .none, ρ, σ, rfl, hs, hno rfl⟩
  | some sx =>
    obtain ⟨st, x⟩ := sx
    obtain ⟨ho, h2, h3, h4⟩ := hres
    obtain ⟨hok, hq⟩ := hyes st x rfl
    refine wpAny_bind (wp_run_yes r hN ho ?_)
    refine wpAny_bind (wp_newMatch h2 h3 h4 hok hg hs fun ma ta s' hs' => ?_)
    exact wpAny_pure ⟨_, rfl, .ref ma, ρ, _, rfl, hs', hq ma ta⟩
theorem m_search {n : String} {pa : Addr} {code : List Nat} {groups : Nat} {pl : Sem Bool} {R : Value → List AV → Loc → Sto → Prop} (G : C.Gl) (P : Pat C.K n pa code groups) (h : R (.builtin "re.Pattern.search") [.ref pa] ρ σ) : AMeth C E (.ref pa) (Str.ofString "search") pl R ρ σ := by
  intro v rv s hs
  cases rv
  obtain ⟨_, _, _, _, _, _, _, h1, _⟩ := pat_at G P hs
  exact getMethod_builtin ⟨_, h1, rfl⟩ plain_Pattern slot_re_search type_re_search (fun a e => by cases e; exact ⟨_, h1, rfl⟩) ⟨[.ref pa], _, _, .one rfl, hs, h⟩
theorem m_fullmatch {n : String} {pa : Addr} {code : List Nat} {groups : Nat} {pl : Sem Bool} {R : Value → List AV → Loc → Sto → Prop} (G : C.Gl) (P : Pat C.K n pa code groups) (h : R (.builtin "re.Pattern.fullmatch") [.ref pa] ρ σ) : AMeth C E (.ref pa) (Str.ofString "fullmatch") pl R ρ σ := by
  intro v rv s hs
  cases rv
  obtain ⟨_, _, _, _, _, _, _, h1, _⟩ := pat_at G P hs
  exact getMethod_builtin ⟨_, h1, rfl⟩ plain_Pattern slot_re_fullmatch type_re_fullmatch (fun a e => by cases e; exact ⟨_, h1, rfl⟩) ⟨[.ref pa], _, _, .one rfl, hs, h⟩
theorem m_group {ma ta : Addr} {l : List Nat} {pl : Sem Bool} {R : Value → List AV → Loc → Sto → Prop} (hm : (ma, AO.pred (MObj l ta)) ∈ σ) (h : R (.builtin "re.Match.group") [.ref ma] ρ σ) : AMeth C E (.ref ma) (Str.ofString "group") pl R ρ σ := by
  intro v rv s hs
  cases rv
  obtain ⟨o, e, _, _, t, _, _, _, _, rfl⟩ := hs.led _ hm
  exact getMethod_builtin ⟨_, e, rfl⟩ plain_Match slot_re_group type_re_group (fun a e' => by cases e'; exact ⟨_, e, rfl⟩) ⟨[.ref ma], _, _, .one rfl, hs, h⟩
/-- a match is true -/
theorem tr_match {ma ta : Addr} {l : List Nat} {QB : Bool → Loc → Sto → Prop} (hm : (ma, AO.pred (MObj l ta)) ∈ σ) (h : QB true ρ σ) : ATr C E (.ref ma) QB ρ σ := by
  intro v rv s hs
  cases rv
  obtain ⟨o, e, _, _, t, _, _, _, _, rfl⟩ := hs.led _ hm
  unfold truthy
  have hT : s.TypeIs (.ref ma) "re.Match" := ⟨_, e, rfl⟩
  refine wpAny_bind ?_
  unfold callSpecial?
  refine wpAny_bind (wpAny_specialOf hT match_no_bool ?_)
  refine wpAny_pure ?_
  refine wpAny_bind (wpAny_specialOf hT match_no_len ?_)
  exact wpAny_pure ⟨true, ρ, σ, rfl, hs, h⟩
theorem rawOf_ints : ∀ {ns : List Int} {vs : List Value}, RVs (ns.map AV.int) vs → vs.map reRawOf = ns
  | [], _, .nil => rfl
  | n :: ns, _, .cons ⟨t, e⟩ h => by subst e; rw [List.map_cons, rawOf_ints h]; rfl
theorem wp_groupNumber {Mo : Model} {A : Around} {E : Value → Shared → Prop} {x : ReFound} {g : Nat} {t : Tok} {Q : Nat → Shared → Prop} (hg : 2 * g < x.spans.size) (h : Q g s) : wpAny Mo A (reGroupNumber x (.int g t)) Q E s := by
  unfold reGroupNumber
  refine wpAny_bind (wpAny_pure ?_)
  dsimp only
  rw [if_pos (show (some (g : Int)).isSome = true from rfl)]
  refine wpAny_bind (wpAny_pure ?_)
  rw [if_neg (by rw [Bool.or_eq_true, decide_eq_true_eq, decide_eq_true_eq]; omega)]
  exact wpAny_pure h
theorem getD_arr {α : Type} (l : List α) (i : Nat) (d : α) : l.toArray.getD i d = l.getD i d := by
  rw [Array.getD_eq_getD_getElem?, List.getD_eq_getElem?_getD, List.getElem?_toArray]
theorem b_group {ma ta : Addr} {l : List Nat} {sp : List Int} {g : Nat} (hm : (ma, AO.pred (MObj l ta)) ∈ σ) (ht : (ta, AO.tuple (sp.map .int)) ∈ σ) (hg : 2 * g < sp.length) (hl : l.length ≤ sizeLine)
    (hn : (sp.getD (2 * g) (-1) < 0 ∨ sp.getD (2 * g + 1) (-1) < 0) → Q .none ρ σ) (hy : 0 ≤ sp.getD (2 * g) (-1) → 0 ≤ sp.getD (2 * g + 1) (-1) → Q (.str (tx ((l.take (sp.getD (2 * g + 1) (-1)).toNat).drop (sp.getD (2 * g) (-1)).toNat))) ρ σ) :
    ACall C E (.builtin "re.Match.group") [.ref ma, .int g] Q ρ σ := by
  intro vs hv s hs
  obtain ⟨v1, v2, rfl, rfl, t, rfl⟩ := RVs.two' hv
  obtain ⟨o, e, _, _, t', _, _, _, _, rfl⟩ := hs.led _ hm
  obtain ⟨o2, e2, _, _, us, n2, r2, rfl⟩ := hs.led _ ht
  refine wpAny_call_entry slot_re_group ⟨_, e, rfl⟩ entry_re_group ?_ (args_re_group _ _)
  unfold Builtin.«re.Match.group»
  refine wpAny_bind (wpAny_pure ?_)
  dsimp only
  unfold reFound
  refine wpAny_bind (wpAny_bind (wpAny_fieldsOf e rfl ?_))
  refine wpAny_bind (wp_rawItems e2 rfl ?_)
  refine wpAny_pure ?_
  rw [List.map_toArray, rawOf_ints r2]
  refine wpAny_bind (wp_groupNumber (by rw [List.size_toArray]; exact hg) ?_)
  unfold reGroupText
  simp only [getD_arr]
  by_cases hneg : sp.getD (2 * g) (-1) < 0 ∨ sp.getD (2 * g + 1) (-1) < 0
  · rw [if_pos (by simpa using hneg)]
    exact wpAny_bind (wpAny_pure (wpAny_pure ⟨_, rfl, .none, ρ, σ, rfl, hs, hn hneg⟩))
  · rw [if_neg (by simpa using hneg)]
    refine wpAny_bind (wpAny_bind ?_)
    show wpAny _ _ (reTextOf (.str (tx l) t')) _ _ _
    rw [textOf_str]
    refine wpAny_pure ?_
    show wpAny _ _ (mkStr ⟨(tx l).cps.extract (sp.getD (2 * g) (-1)).toNat (sp.getD (2 * g + 1) (-1)).toNat⟩) _ _ _
    have ex : (⟨(tx l).cps.extract (sp.getD (2 * g) (-1)).toNat (sp.getD (2 * g + 1) (-1)).toNat⟩ : Str) = tx ((l.take (sp.getD (2 * g + 1) (-1)).toNat).drop (sp.getD (2 * g) (-1)).toNat) := by
      unfold tx
      rw [List.extract_toArray, List.extract_eq_drop_take, List.drop_take]
    rw [ex]
    refine wpAny_mkStr (wpAny_pure ⟨_, rfl, .str _, ρ, σ, ⟨_, rfl⟩, hs.toks _, hy (by omega) (by omega)⟩) ?_
    rw [tx_len, List.length_drop, List.length_take]
    omega
end
end Mine
namespace Mine
open PySem
open PySem.Sre (M Wait Seen)
/-- the words of a set, from i on -/
def InS (code : Array Nat) (i fuel : Nat) (yes : Bool) (p : Nat → Bool) : Prop := ∀ c sn, ∃ sn', Sre.inSet code c fuel i yes sn = .ok (p c, sn')
section
variable {code : Array Nat} {i fuel a k : Nat} {yes : Bool} {p q : Nat → Bool}
theorem op0 : Sre.ops[0]? = some .FAILURE := rfl
theorem op8 : Sre.ops[8]? = some .CATEGORY := rfl
theorem op9 : Sre.ops[9]? = some .CHARSET := rfl
theorem op21 : Sre.ops[21]? = some .NEGATE := rfl
theorem ins_fail (h : code.getD i 0 = 0) : InS code i (fuel + 1) yes (fun _ => !yes) := fun c sn => by
  unfold Sre.inSet
  simp only [Nat.add_zero, h, op0]
  exact ⟨_, rfl⟩
theorem ins_neg (h : code.getD i 0 = 21) (hp : InS code (i + 1) fuel (!yes) p) : InS code i (fuel + 1) yes p := fun c sn => by
  obtain ⟨sn', e⟩ := hp c (sn.add 21)
  unfold Sre.inSet
  simp only [Nat.add_zero, h, op21]
  exact ⟨sn', e⟩
theorem ins_lit (h : code.getD i 0 = 16) (h1 : code.getD (i + 1) 0 = a) (hp : InS code (i + 2) fuel yes p) : InS code i (fuel + 1) yes (fun c => if c == a then yes else p c) := fun c sn => by
  obtain ⟨sn', e⟩ := hp c (sn.add 16)
  unfold Sre.inSet
  simp only [Nat.add_zero, h, op16, h1]
  by_cases hc : (c == a) = true
  · exact ⟨_, by rw [if_pos hc, if_pos hc]⟩
  · exact ⟨sn', by rw [if_neg hc, if_neg hc]; exact e⟩
theorem ins_cat (h : code.getD i 0 = 8) (h1 : code.getD (i + 1) 0 = k) (hk : ∀ c, Sre.category k c = .ok (q c)) (hp : InS code (i + 2) fuel yes p) : InS code i (fuel + 1) yes (fun c => if q c then yes else p c) := fun c sn => by
  obtain ⟨sn', e⟩ := hp c ((sn.add 8).add (55 + k))
  unfold Sre.inSet
  simp only [Nat.add_zero, h, op8, h1, hk]
  cases hq : q c with
  | true => exact ⟨_, rfl⟩
  | false => exact ⟨sn', e⟩
theorem ins_charset (h : code.getD i 0 = 9) (hp : InS code (i + 9) fuel yes p) : InS code i (fuel + 1) yes (fun c => if (decide (c < 256) && (code.getD (i + (1 + c / 32)) 0).testBit (c % 32)) = true then yes else p c) := fun c sn => by
  obtain ⟨sn', e⟩ := hp c (sn.add 9)
  unfold Sre.inSet
  simp only [Nat.add_zero, h, op9]
  by_cases hc : (decide (c < 256) && (code.getD (i + (1 + c / 32)) 0).testBit (c % 32)) = true
  · exact ⟨_, by rw [if_pos hc, if_pos hc]⟩
  · exact ⟨sn', by rw [if_neg hc, if_neg hc]; exact e⟩
theorem acc_in (h : code.getD i 0 = 13) (hp : InS code (i + 2) code.size true p) : Acc code i p := fun c sn => by
  obtain ⟨sn', e⟩ := hp c sn
  unfold Sre.accepts
  simp only [h, op13]
  exact ⟨sn', e⟩
theorem acc_lit (h : code.getD i 0 = 16) (h1 : code.getD (i + 1) 0 = a) : Acc code i (fun c => c == a) := fun c sn => by
  unfold Sre.accepts
  simp only [h, op16, h1]
  exact ⟨_, rfl⟩
theorem acc_any (h : code.getD i 0 = 2) : Acc code i (fun c => c != 10) := fun c sn => by
  unfold Sre.accepts
  simp only [h, op2]
  exact ⟨_, rfl⟩
theorem Acc.congr (h : Acc code i p) (e : ∀ c, p c = q c) : Acc code i q := by rw [← funext e]; exact h
theorem cat_digit (c : Nat) : Sre.category 0 c = .ok (Sre.isDigit c) := by
  show Except.ok (Sre.isDigit c != false) = _
  cases Sre.isDigit c <;> rfl
theorem cat_space (c : Nat) : Sre.category 12 c = .ok (Unicode.isSpace c) := by
  show Except.ok (Unicode.isSpace c != false) = _
  cases Unicode.isSpace c <;> rfl
end
/-- what is left of the text from q on -/
structure Sfx (K : Kc) (q : Nat) (u : List Nat) : Prop where
  lim : K.lim = q + u.length
  get : ∀ i, i < u.length → K.text.getD (q + i) 0 = u.getD i 0
section
variable {K : Kc} {q c : Nat} {u : List Nat}
theorem Sfx.tl (h : Sfx K q (c :: u)) : Sfx K (q + 1) u := ⟨by rw [h.lim, List.length_cons]; omega, fun i hi => by
  have := h.get (i + 1) (by rw [List.length_cons]; omega)
  rw [show q + 1 + i = q + (i + 1) by omega, this]; rfl⟩
theorem Sfx.hd (h : Sfx K q (c :: u)) : K.text.getD q 0 = c := h.get 0 (by rw [List.length_cons]; omega)
theorem Sfx.lt (h : Sfx K q (c :: u)) : q < K.lim := by rw [h.lim, List.length_cons]; omega
theorem Sfx.nil (h : Sfx K q []) : K.lim = q := h.lim
theorem Sfx.le (h : Sfx K q u) : q ≤ K.lim := by rw [h.lim]; omega
theorem Sfx.cnt0 {p : Nat → Bool} {most : Nat} (h : Sfx K q u) (hn : ∀ c u', u = c :: u' → p c = false) : cnt p K.text q (min most (K.lim - q)) = 0 := by
  cases u with
  | nil => rw [h.nil, Nat.sub_self, Nat.min_zero]; rfl
  | cons c u =>
    rw [h.lim, Nat.add_sub_cancel_left]
    cases hm : min most (c :: u).length with
    | zero => rfl
    | succ n => unfold cnt; rw [h.hd, hn c u rfl]; rfl
theorem Sfx.cnt1 {p : Nat → Bool} (h : Sfx K q (c :: u)) (hp : p c = true) : cnt p K.text q (min 1 (K.lim - q)) = 1 := by
  rw [h.lim, Nat.add_sub_cancel_left, List.length_cons, show min 1 (u.length + 1) = 1 by omega]
  unfold cnt
  rw [h.hd, hp]
  rfl
theorem cnt_sfx {p : Nat → Bool} : ∀ (u : List Nat) {q : Nat} (n : Nat), Sfx K q u → u.length ≤ n → cnt p K.text q (min n (K.lim - q)) = (u.takeWhile p).length
  | [], q, n, h, _ => by rw [h.nil, Nat.sub_self, Nat.min_zero]; rfl
  | c :: u, q, n, h, hn => by
    have ih := cnt_sfx (p := p) u n h.tl (by rw [List.length_cons] at hn; omega)
    rw [h.lim, Nat.add_sub_cancel_left, List.length_cons] at *
    rw [show min n (u.length + 1) = u.length + 1 by omega]
    unfold cnt
    rw [h.hd, List.takeWhile_cons]
    cases hp : p c with
    | false => rfl
    | true =>
      rw [if_pos rfl, if_pos rfl, List.length_cons]
      rw [show q + (u.length + 1) - (q + 1) = u.length by omega, show min n u.length = u.length by omega] at ih
      rw [ih]
end
end Mine
namespace Mine
open PySem
open PySem.Sre (M Wait Seen)
def tzc : List Nat := [14, 4, 0, 1, 6, 6, 0, 23, 14, 0, 1, 17, 0, 13, 6, 16, 45, 16, 43, 0, 17, 1, 18, 17, 2, 13, 4, 8, 0, 0, 24, 9, 0, 1, 13, 4, 8, 0, 0, 1, 17, 3, 24, 6, 0, 1, 16, 58, 1, 23, 17, 0, 1, 17, 4, 13, 4, 8, 0, 0, 13, 4, 8, 0, 0, 17, 5, 18, 6, 5, 1]
abbrev dig := Sre.isDigit
def sgn (c : Nat) : Bool := c == 45 || c == 43
def tzFin (q : Nat) (u : List Nat) (k : Mk) : Option Rs := if u = [] ∨ u = [10] then some ⟨k, q⟩ else none
def tzTwo (q : Nat) (u : List Nat) (k : Mk) : Option Rs := match u with
  | a :: b :: u' => if dig a && dig b then tzFin (q + 2) u' ((k.set 4 q).set 5 (q + 2)) else none
  | _ => none
def tzMin (q : Nat) (u : List Nat) (k : Mk) : Option Rs := (tzTwo q u k).or (tzFin q u k)
def tzCol (q : Nat) (u : List Nat) (k : Mk) : Option Rs := match u with
  | c :: u' => if c == 58 then (tzMin (q + 1) u' k).or (tzMin q u k) else tzMin q u k
  | [] => tzMin q u k
def tzHr1 (q : Nat) (u : List Nat) (k : Mk) : Option Rs := match u with
  | b :: u2 => if dig b then (tzCol (q + 1) u2 (k.set 3 (q + 1))).or (tzCol q u (k.set 3 q)) else tzCol q u (k.set 3 q)
  | [] => tzCol q u (k.set 3 q)
def tzHr (q : Nat) (u : List Nat) (k : Mk) : Option Rs := match u with
  | a :: u1 => if dig a then tzHr1 (q + 1) u1 (k.set 2 q) else none
  | [] => none
def tzSg (q : Nat) (u : List Nat) (k : Mk) : Option Rs := match u with
  | a :: u1 => if sgn a then tzHr (q + 1) u1 ((k.set 0 q).set 1 (q + 1)) else none
  | [] => none
def tzAll (q : Nat) (u : List Nat) (k : Mk) : Option Rs := (tzSg q u k).or (tzHr q u k)
theorem acc_tz25 : Acc tzc.toArray 25 dig := (acc_in (i := 25) rfl (ins_cat (i := 27) (k := 0) (q := dig) rfl rfl cat_digit (ins_fail rfl))).congr fun c => by cases dig c <;> rfl
theorem acc_tz34 : Acc tzc.toArray 34 dig := (acc_in (i := 34) rfl (ins_cat (i := 36) (k := 0) (q := dig) rfl rfl cat_digit (ins_fail rfl))).congr fun c => by cases dig c <;> rfl
theorem acc_tz55 : Acc tzc.toArray 55 dig := (acc_in (i := 55) rfl (ins_cat (i := 57) (k := 0) (q := dig) rfl rfl cat_digit (ins_fail rfl))).congr fun c => by cases dig c <;> rfl
theorem acc_tz60 : Acc tzc.toArray 60 dig := (acc_in (i := 60) rfl (ins_cat (i := 62) (k := 0) (q := dig) rfl rfl cat_digit (ins_fail rfl))).congr fun c => by cases dig c <;> rfl
theorem acc_tz46 : Acc tzc.toArray 46 (fun c => c == 58) := acc_lit rfl rfl
theorem acc_tz13 : Acc tzc.toArray 13 sgn := (acc_in (i := 13) rfl (ins_lit (i := 15) (a := 45) rfl rfl (ins_lit (i := 17) (a := 43) rfl rfl (ins_fail rfl)))).congr fun c => by
  unfold sgn; cases c == 45 <;> cases c == 43 <;> rfl
section
variable {K : Kc} {q : Nat} {om : Bool} {inn : Option Nat} {L : Array Sre.Loop} {k : Mk} {u : List Nat}
theorem at_end (S : Sfx K q u) (m : M) (h1 : m.text = K.text) (h2 : m.lim = K.lim) (h3 : m.pos = q) : m.isAt 5 = .ok (decide (u = [] ∨ u = [10])) := by
  show Except.ok (m.pos == m.lim || (m.pos + 1 == m.lim && m.text.getD m.pos 0 == 10)) = _
  rw [h1, h2, h3, S.lim]
  congr 1
  rcases u with _ | ⟨c, _ | ⟨d, u⟩⟩
  · simp
  · have := S.hd
    simp [this]
    rw [show (q == q + 1) = false from beq_eq_false_iff_ne.mpr (by omega), Bool.false_or]
    rfl
  · simp
theorem ex_tzFin (hc : K.code = tzc.toArray) (hw : K.whole = false) (hm : K.must = false) (S : Sfx K q u) : Ex 2 0 K 68 q om inn L k (tzFin q u k) := by
  unfold tzFin
  by_cases h : u = [] ∨ u = [10]
  · rw [if_pos h]
    refine ex_at (what := 5) (by rw [hc]; decide) (by rw [hc]; rfl) (by rw [hc]; rfl) (fun m h1 h2 h3 => by rw [at_end S m h1 h2 h3, decide_eq_true h]) ?_
    exact ex_success (by rw [hc]; decide) (by rw [hc]; rfl) (by rw [hw, hm]; cases om <;> rfl)
  · rw [if_neg h]
    exact Ex.le (ex_at_no (what := 5) (by rw [hc]; decide) (by rw [hc]; rfl) (by rw [hc]; rfl) (fun m h1 h2 h3 => by rw [at_end S m h1 h2 h3, decide_eq_false h])) (by omega) (by omega)
theorem ex_tzMin (hc : K.code = tzc.toArray) (hw : K.whole = false) (hm : K.must = false) (S : Sfx K q u) (hk : k.nm = 6) (hl : k.lm < 4) : Ex 20 20 K 49 q om inn L k (tzMin q u k) := by
  unfold tzMin
  refine Ex.le (ex_repeat (a := 18) (w := 19) (skip := 17) (by rw [hc]; decide) (by rw [hc]; rfl) (by rw [hc]; rfl) ?_) (by omega) (by omega)
  have hL : (L.push { pc := 49, outer := inn }).getD L.size { pc := 0, outer := none } = { pc := 49, outer := inn } := by
    rw [Array.getD_eq_getD_getElem?, Array.getElem?_push_size]; rfl
  refine Ex.le (ex_until (a := 10) (w := 5) (a' := 2) (w' := 0) (most := 1) (by rw [hc]; decide) (by rw [hc]; rfl) (by rw [Array.size_push]; omega) hL (by rw [hc]; rfl) (by rw [hc]; rfl) (by first | (show (-1 : Int) ≤ -1; omega) | (show (-1 : Int) ≤ 0; omega)) (by rfl) ?_ (ex_tzFin hc hw hm S)) (by omega) (by omega)
  show Ex 10 5 K 53 q om _ _ k _
  refine Ex.le (ex_mark (a := 9) (i := 4) (by rw [hc]; decide) (by rw [hc]; rfl) (by rw [hc]; rfl) (by omega) (by omega) ?_) (by omega) (Nat.le_refl _)
  unfold tzTwo
  rcases u with _ | ⟨c, _ | ⟨d, u⟩⟩
  · exact Ex.le (ex_item_no (op := 13) (p := dig) (by rw [hc]; decide) (by rw [hc]; rfl) rfl (by rw [hc]; exact acc_tz55) (fun h => by rw [S.nil] at h; omega)) (by omega) (by omega)
  · dsimp only
    by_cases h1 : dig c = true
    · refine Ex.le (ex_item (a := 1) (op := 13) (wd := 5) (p := dig) (by rw [hc]; decide) (by rw [hc]; rfl) rfl (by rw [hc]; rfl) (by rw [hc]; exact acc_tz55) S.lt (by rw [S.hd]; exact h1) ?_) (by omega) (Nat.le_refl _)
      exact Ex.le (ex_item_no (op := 13) (p := dig) (by rw [hc]; decide) (by rw [hc]; rfl) rfl (by rw [hc]; exact acc_tz60) (fun h => by rw [S.tl.nil] at h; omega)) (by omega) (by omega)
    · exact Ex.le (ex_item_no (op := 13) (p := dig) (by rw [hc]; decide) (by rw [hc]; rfl) rfl (by rw [hc]; exact acc_tz55) (fun h => by rw [S.hd]; exact Bool.eq_false_iff.mpr h1)) (by omega) (by omega)
  · dsimp only
    by_cases h1 : dig c = true
    · refine Ex.le (ex_item (a := 8) (op := 13) (wd := 5) (p := dig) (by rw [hc]; decide) (by rw [hc]; rfl) rfl (by rw [hc]; rfl) (by rw [hc]; exact acc_tz55) S.lt (by rw [S.hd]; exact h1) ?_) (by omega) (Nat.le_refl _)
      by_cases h2 : dig d = true
      · refine Ex.le (ex_item (a := 7) (op := 13) (wd := 5) (p := dig) (by rw [hc]; decide) (by rw [hc]; rfl) rfl (by rw [hc]; rfl) (by rw [hc]; exact acc_tz60) S.tl.lt (by rw [S.tl.hd]; exact h2) ?_) (by omega) (Nat.le_refl _)
        rw [h1, h2]
        refine Ex.le (ex_mark (a := 6) (i := 5) (by rw [hc]; decide) (by rw [hc]; rfl) (by rw [hc]; rfl) (by show 5 < k.nm; omega) (by show max k.lm (4 : Nat) < _; omega) ?_) (by omega) (Nat.le_refl _)
        refine Ex.le (ex_until_end (a := 2) (w := 0) (most := 1) (l := { pc := 49, count := 0, began := some q, outer := inn }) (by rw [hc]; decide) (by rw [hc]; rfl) (by rw [Array.size_modify, Array.size_push]; omega) ?_ (by rw [hc]; rfl) (by rw [hc]; rfl) (by first | (show (-1 : Int) ≤ -1; omega) | (show (-1 : Int) ≤ 0; omega)) (by rfl) (ex_tzFin hc hw hm S.tl.tl)) (by omega) (by omega)
        rw [getD_modify_self (by rw [Array.size_push]; omega), hL]
        rfl
      · rw [h1, Bool.eq_false_iff.mpr h2]
        exact Ex.le (ex_item_no (op := 13) (p := dig) (by rw [hc]; decide) (by rw [hc]; rfl) rfl (by rw [hc]; exact acc_tz60) (fun h => by rw [S.tl.hd]; exact Bool.eq_false_iff.mpr h2)) (by omega) (by omega)
    · rw [Bool.eq_false_iff.mpr h1]
      exact Ex.le (ex_item_no (op := 13) (p := dig) (by rw [hc]; decide) (by rw [hc]; rfl) rfl (by rw [hc]; exact acc_tz55) (fun h => by rw [S.hd]; exact Bool.eq_false_iff.mpr h1)) (by omega) (by omega)
theorem ex_tzCol (hc : K.code = tzc.toArray) (hw : K.whole = false) (hm : K.must = false) (S : Sfx K q u) (hk : k.nm = 6) (hl : k.lm < 4) : Ex 50 50 K 42 q om inn L k (tzCol q u k) := by
  have h0 : ∀ u, Sfx K q u → (∀ c u', u = c :: u' → (c == 58) = false) → Ex 50 50 K 42 q om inn L k (tzMin q u k) := by
    intro u S hn
    refine Ex.le (ex_rep (a := 20) (w := 20) (d := 0) (least := 0) (most := 1) (skip := 6) (p := fun c => c == 58) (tail := fun j => tzMin (q + j) (u.drop j) k) (by rw [hc]; decide) (by rw [hc]; rfl) (by rw [hc]; rfl) (by rw [hc]; rfl) (by rw [hc]; rfl) (by rw [hc]; exact acc_tz46) S.le (S.cnt0 hn) (fun j hj => ?_)) (by omega) (by omega)
    obtain rfl : j = 0 := by omega
    exact ex_tzMin hc hw hm S hk hl
  unfold tzCol
  rcases u with _ | ⟨c, u⟩
  · exact h0 _ S (fun c u' e => by cases e)
  · dsimp only
    by_cases h1 : (c == 58) = true
    · rw [if_pos h1]
      refine Ex.le (ex_rep (a := 20) (w := 20) (d := 1) (least := 0) (most := 1) (skip := 6) (p := fun c => c == 58) (tail := fun j => tzMin (q + j) ((c :: u).drop j) k) (by rw [hc]; decide) (by rw [hc]; rfl) (by rw [hc]; rfl) (by rw [hc]; rfl) (by rw [hc]; rfl) (by rw [hc]; exact acc_tz46) S.le (S.cnt1 h1) (fun j hj => ?_)) (by omega) (by omega)
      rcases j with _ | j
      · exact ex_tzMin hc hw hm S hk hl
      · obtain rfl : j = 0 := by omega
        exact ex_tzMin hc hw hm S.tl hk hl
    · rw [if_neg h1]
      exact h0 _ S (fun c' u' e => by cases e; exact Bool.eq_false_iff.mpr h1)
theorem set_lm {k : Mk} {i pos : Nat} : (k.set i pos).lm = max k.lm i := rfl
theorem set_nm {k : Mk} {i pos : Nat} : (k.set i pos).nm = k.nm := rfl
theorem ex_tzHr1 (hc : K.code = tzc.toArray) (hw : K.whole = false) (hm : K.must = false) (S : Sfx K q u) (hk : k.nm = 6) (hl : k.lm < 3) : Ex 120 120 K 30 q om inn L k (tzHr1 q u k) := by
  have hcol : ∀ q u, Sfx K q u → Ex 51 50 K 40 q om inn L k (tzCol q u (k.set 3 q)) := by
    intro q u S
    exact ex_mark (a := 50) (i := 3) (by rw [hc]; decide) (by rw [hc]; rfl) (by rw [hc]; rfl) (by omega) (by omega) (ex_tzCol hc hw hm S hk (by rw [set_lm]; omega))
  have h0 : ∀ u, Sfx K q u → (∀ c u', u = c :: u' → dig c = false) → Ex 120 120 K 30 q om inn L k (tzCol q u (k.set 3 q)) := by
    intro u S hn
    refine Ex.le (ex_rep (a := 51) (w := 50) (d := 0) (least := 0) (most := 1) (skip := 9) (p := dig) (tail := fun j => tzCol (q + j) (u.drop j) (k.set 3 (q + j))) (by rw [hc]; decide) (by rw [hc]; rfl) (by rw [hc]; rfl) (by rw [hc]; rfl) (by rw [hc]; rfl) (by rw [hc]; exact acc_tz34) S.le (S.cnt0 hn) (fun j hj => ?_)) (by omega) (by omega)
    obtain rfl : j = 0 := by omega
    exact hcol _ _ S
  unfold tzHr1
  rcases u with _ | ⟨c, u⟩
  · exact h0 _ S (fun c u' e => by cases e)
  · dsimp only
    by_cases h1 : dig c = true
    · rw [if_pos h1]
      refine Ex.le (ex_rep (a := 51) (w := 50) (d := 1) (least := 0) (most := 1) (skip := 9) (p := dig) (tail := fun j => tzCol (q + j) ((c :: u).drop j) (k.set 3 (q + j))) (by rw [hc]; decide) (by rw [hc]; rfl) (by rw [hc]; rfl) (by rw [hc]; rfl) (by rw [hc]; rfl) (by rw [hc]; exact acc_tz34) S.le (S.cnt1 h1) (fun j hj => ?_)) (by omega) (by omega)
      rcases j with _ | j
      · exact hcol _ _ S
      · obtain rfl : j = 0 := by omega
        exact hcol _ _ S.tl
    · rw [if_neg h1]
      exact h0 _ S (fun c' u' e => by cases e; exact Bool.eq_false_iff.mpr h1)
theorem ex_tzHr (hc : K.code = tzc.toArray) (hw : K.whole = false) (hm : K.must = false) (S : Sfx K q u) (hk : k.nm = 6) (hl : k.lm < 2) : Ex 122 120 K 23 q om inn L k (tzHr q u k) := by
  refine Ex.le (ex_mark (a := 121) (i := 2) (by rw [hc]; decide) (by rw [hc]; rfl) (by rw [hc]; rfl) (by omega) (by omega) ?_) (by omega) (Nat.le_refl _)
  unfold tzHr
  rcases u with _ | ⟨c, u⟩
  · exact Ex.le (ex_item_no (op := 13) (p := dig) (by rw [hc]; decide) (by rw [hc]; rfl) rfl (by rw [hc]; exact acc_tz25) (fun h => by rw [S.nil] at h; omega)) (by omega) (by omega)
  · dsimp only
    by_cases h1 : dig c = true
    · rw [if_pos h1]
      exact ex_item (a := 120) (op := 13) (wd := 5) (p := dig) (by rw [hc]; decide) (by rw [hc]; rfl) rfl (by rw [hc]; rfl) (by rw [hc]; exact acc_tz25) S.lt (by rw [S.hd]; exact h1) (ex_tzHr1 hc hw hm S.tl hk (by rw [set_lm]; omega))
    · rw [if_neg h1]
      exact Ex.le (ex_item_no (op := 13) (p := dig) (by rw [hc]; decide) (by rw [hc]; rfl) rfl (by rw [hc]; exact acc_tz25) (fun h => by rw [S.hd]; exact Bool.eq_false_iff.mpr h1)) (by omega) (by omega)
theorem ex_tzAll (hc : K.code = tzc.toArray) (hw : K.whole = false) (hm : K.must = false) (S : Sfx K q u) (hk : k.nm = 6) (hl : k.lm = -1) : Ex 300 300 K 7 q om inn L k (tzAll q u k) := by
  unfold tzAll
  refine Ex.le (ex_repeat (a := 290) (w := 250) (skip := 14) (by rw [hc]; decide) (by rw [hc]; rfl) (by rw [hc]; rfl) ?_) (by omega) (by omega)
  have hL : (L.push { pc := 7, outer := inn }).getD L.size { pc := 0, outer := none } = { pc := 7, outer := inn } := by
    rw [Array.getD_eq_getD_getElem?, Array.getElem?_push_size]; rfl
  refine Ex.le (ex_until (a := 140) (w := 130) (a' := 122) (w' := 120) (most := 1) (by rw [hc]; decide) (by rw [hc]; rfl) (by rw [Array.size_push]; omega) hL (by rw [hc]; rfl) (by rw [hc]; rfl) (by first | (show (-1 : Int) ≤ -1; omega) | (show (-1 : Int) ≤ 0; omega)) (by rfl) ?_ (ex_tzHr hc hw hm S hk (by omega))) (by omega) (by omega)
  show Ex 140 130 K 11 q om _ _ k _
  refine Ex.le (ex_mark (a := 139) (i := 0) (by rw [hc]; decide) (by rw [hc]; rfl) (by rw [hc]; rfl) (by omega) (by omega) ?_) (by omega) (Nat.le_refl _)
  unfold tzSg
  rcases u with _ | ⟨c, u⟩
  · exact Ex.le (ex_item_no (op := 13) (p := sgn) (by rw [hc]; decide) (by rw [hc]; rfl) rfl (by rw [hc]; exact acc_tz13) (fun h => by rw [S.nil] at h; omega)) (by omega) (by omega)
  · dsimp only
    by_cases h1 : sgn c = true
    · rw [if_pos h1]
      refine Ex.le (ex_item (a := 138) (op := 13) (wd := 7) (p := sgn) (by rw [hc]; decide) (by rw [hc]; rfl) rfl (by rw [hc]; rfl) (by rw [hc]; exact acc_tz13) S.lt (by rw [S.hd]; exact h1) ?_) (by omega) (Nat.le_refl _)
      refine Ex.le (ex_mark (a := 137) (i := 1) (by rw [hc]; decide) (by rw [hc]; rfl) (by rw [hc]; rfl) (by show 1 < k.nm; omega) (by rw [set_lm]; omega) ?_) (by omega) (Nat.le_refl _)
      refine Ex.le (ex_until_end (a := 122) (w := 120) (most := 1) (l := { pc := 7, count := 0, began := some q, outer := inn }) (by rw [hc]; decide) (by rw [hc]; rfl) (by rw [Array.size_modify, Array.size_push]; omega) ?_ (by rw [hc]; rfl) (by rw [hc]; rfl) (by first | (show (-1 : Int) ≤ -1; omega) | (show (-1 : Int) ≤ 0; omega)) (by rfl) (ex_tzHr hc hw hm S.tl hk (by rw [set_lm, set_lm]; omega))) (by omega) (by omega)
      rw [getD_modify_self (by rw [Array.size_push]; omega), hL]
      rfl
    · rw [if_neg h1]
      exact Ex.le (ex_item_no (op := 13) (p := sgn) (by rw [hc]; decide) (by rw [hc]; rfl) rfl (by rw [hc]; exact acc_tz13) (fun h => by rw [S.hd]; exact Bool.eq_false_iff.mpr h1)) (by omega) (by omega)
end
end Mine
namespace Mine
open PySem
open PySem.Sre (M Wait Seen)
def tzK (l : List Nat) : Kc := { code := tzc.toArray, text := l.toArray, lim := l.length, start := 0, lastStart := l.length, whole := false, must := false }
theorem sfx_at {l : List Nat} {s : Nat} {b : Bool} : Sfx ((tzK l).at s b) 0 l := ⟨by show l.length = 0 + _; omega, fun i hi => by show l.toArray.getD (0 + i) 0 = _; rw [Nat.zero_add, getD_arr]⟩
theorem first_none {r : Nat → Option Rs} : ∀ n s, (∀ j, s ≤ j → r j = none) → firstFrom r s n = none
  | 0, _, _ => rfl
  | n + 1, s, h => by unfold firstFrom; rw [h s (Nat.le_refl _)]; exact first_none n (s + 1) fun j hj => h j (by omega)
theorem tz_search (l : List Nat) : Runs (l.length * 302 + 400) (Sre.forSearch tzc.toArray l.toArray 3 0 l.length false) 6 ((tzAll 0 l (k0 6)).map fun x => (0, x)) := by
  cases l with
  | nil =>
    refine Runs.le (N := 1) ?_ (by omega)
    refine ⟨{ (Sre.forSearch tzc.toArray #[] 3 0 0 false) with outcome := some .failed }, ⟨1, Nat.le_refl _, ?_⟩, ?_, ?_⟩
    · rw [runFor_one (by rfl)]
      exact answer_end (by rfl) (by rfl) (b := false) (by rfl)
    · rfl
    · exact rfl
  | cons c u =>
    have e : Sre.forSearch tzc.toArray (c :: u).toArray 3 0 (c :: u).length false = M.attemptFrom ({ code := tzc.toArray, text := (c :: u).toArray, lim := (c :: u).length, start := 0, lastStart := (c :: u).length, pc := 5, pos := 0, handed := 0, marks := Array.replicate 6 none, mustAdvance := false, seen := ({} : Seen).add 14 } : M) 0 true := by
      unfold Sre.forSearch
      dsimp only
      rw [if_neg (show ¬ (decide (0 > (c :: u).length) || decide ((c :: u).length - 0 < (Sre.header tzc.toArray).1)) = true by
        show ¬ (decide (0 > (c :: u).length) || decide ((c :: u).length - 0 < 1)) = true
        simp)]
      rfl
    rw [e]
    have hs := search_go (K := tzK (c :: u)) (pc := 5) (nm := 6) (a := 301) (w := 300) (rs := fun s => if s = 0 then tzAll 0 (c :: u) (k0 6) else none)
      (fun m hm => by unfold M.hasFirstSet; rw [hm]; rfl) (by decide) ((c :: u).length + 1) 0 true
      ({ code := tzc.toArray, text := (c :: u).toArray, lim := (c :: u).length, start := 0, lastStart := (c :: u).length, pc := 5, pos := 0, handed := 0, marks := Array.replicate 6 none, mustAdvance := false, seen := ({} : Seen).add 14 } : M)
      ⟨rfl, rfl, rfl, rfl, rfl, rfl, rfl, rfl, rfl, rfl, rfl, rfl, rfl, rfl⟩ (by show (c :: u).length + 1 = _; omega) (by omega)
      (by
        refine ex_at (what := 0) (a := 300) (by show 5 < tzc.toArray.size; decide) rfl rfl (fun m h1 h2 h3 => by show Except.ok (m.pos == 0) = _; rw [h3]; rfl) ?_
        exact ex_tzAll rfl rfl rfl sfx_at rfl rfl)
      (fun s' h1 h2 => by
        rw [if_neg (by omega)]
        exact Ex.le (ex_at_no (what := 0) (by show 5 < tzc.toArray.size; decide) rfl rfl (fun m h1' h2' h3 => by show Except.ok (m.pos == 0) = _; rw [h3]; exact congrArg Except.ok (beq_eq_false_iff_ne.mpr (by omega)))) (by omega) (by omega))
    have er : firstFrom (fun s => if s = 0 then tzAll 0 (c :: u) (k0 6) else none) 0 ((c :: u).length + 1) = (tzAll 0 (c :: u) (k0 6)).map fun x => (0, x) := by
      unfold firstFrom
      rw [if_pos rfl]
      cases tzAll 0 (c :: u) (k0 6) with
      | some x => rfl
      | none => exact first_none _ _ fun j hj => if_neg (by omega)
    rw [er] at hs
    exact hs.le (by omega)
/-! the value -/
def fig (c : Nat) : Int := (c : Int) - 48
abbrev eot (u : List Nat) : Prop := u = [] ∨ u = [10]
def vFin (u : List Nat) (h : Int) : Option Int := if eot u then some (3600 * h) else none
def vTwo (u : List Nat) (h : Int) : Option Int := match u with
  | a :: b :: u' => if dig a && dig b then (if eot u' then some (3600 * h + 60 * (10 * fig a + fig b)) else none) else none
  | _ => none
def vMin (u : List Nat) (h : Int) : Option Int := (vTwo u h).or (vFin u h)
def vCol (u : List Nat) (h : Int) : Option Int := match u with
  | c :: u' => if c == 58 then (vMin u' h).or (vMin u h) else vMin u h
  | [] => vMin u h
def vHr1 (u : List Nat) (a : Nat) : Option Int := match u with
  | b :: u2 => if dig b then (vCol u2 (10 * fig a + fig b)).or (vCol u (fig a)) else vCol u (fig a)
  | [] => vCol u (fig a)
def vHr (u : List Nat) : Option Int := match u with
  | a :: u1 => if dig a then vHr1 u1 a else none
  | [] => none
def vSg (u : List Nat) : Option Int := match u with
  | a :: u1 => if sgn a then (vHr u1).map (fun n => if a = 45 then -n else n) else none
  | [] => none
def vAll (u : List Nat) : Option Int := (vSg u).or (vHr u)
/-- the machine's answer and the value's, the hours known -/
def Rl (l : List Nat) (k : Mk) (h : Int) : Option Rs → Option Int → Prop
  | none, none => True
  | some x, some n => 3 ≤ x.k.lm ∧ (∀ i, i < 4 → x.k.get i = k.get i) ∧ ((x.k.lm < 5 ∧ n = 3600 * h) ∨ (5 ≤ x.k.lm ∧ ∃ p a b, x.k.get 4 = some p ∧ x.k.get 5 = some (p + 2) ∧ (l.take (p + 2)).drop p = [a, b] ∧ dig a = true ∧ dig b = true ∧ n = 3600 * h + 60 * (10 * fig a + fig b)))
  | _, _ => False
theorem Rl.or {l : List Nat} {k : Mk} {h : Int} {r r' : Option Rs} {v v' : Option Int} (h1 : Rl l k h r v) (h2 : Rl l k h r' v') : Rl l k h (r.or r') (v.or v') := by
  cases r <;> cases v <;> first | exact h1.elim | exact h2 | exact h1
theorem take_drop2 {l u : List Nat} {q a b : Nat} (hl : l.drop q = a :: b :: u) : (l.take (q + 2)).drop q = [a, b] := by
  rw [List.drop_take, hl, show q + 2 - q = 2 by omega]; rfl
theorem drop1 {l u : List Nat} {q a : Nat} (hl : l.drop q = a :: u) : l.drop (q + 1) = u := by
  rw [← List.drop_drop, hl]; rfl
theorem get_set {k : Mk} {i pos j : Nat} : (k.set i pos).get j = if j = i then some pos else if (j : Int) ≤ k.lm then k.get j else none := rfl
section
variable {l u : List Nat} {q : Nat} {k : Mk} {h : Int}
theorem rl_fin (hk : k.lm = 3) : Rl l k h (tzFin q u k) (vFin u h) := by
  unfold tzFin vFin
  by_cases e : u = [] ∨ u = [10]
  · rw [if_pos e, if_pos e]; exact ⟨by show (3 : Int) ≤ k.lm; omega, fun _ _ => rfl, .inl ⟨by show k.lm < 5; omega, rfl⟩⟩
  · rw [if_neg e, if_neg e]; trivial
theorem rl_min (hk : k.lm = 3) (hl : l.drop q = u) : Rl l k h (tzMin q u k) (vMin u h) := by
  refine Rl.or ?_ (rl_fin hk)
  rcases u with _ | ⟨a, _ | ⟨b, u⟩⟩
  · trivial
  · trivial
  · unfold tzTwo vTwo
    dsimp only
    by_cases hd : (dig a && dig b) = true
    · rw [if_pos hd, if_pos hd]
      unfold tzFin
      have hd' := Bool.and_eq_true_iff.mp hd
      by_cases e : u = [] ∨ u = [10]
      · rw [if_pos e, if_pos e]
        refine ⟨?_, fun i hi => ?_, .inr ⟨?_, q, a, b, ?_, ?_, take_drop2 hl, hd'.1, hd'.2, rfl⟩⟩
        · show (3 : Int) ≤ max (max k.lm (4 : Nat)) (5 : Nat)
          omega
        · rw [get_set, get_set, set_lm, if_neg (by omega), if_pos (by omega), if_neg (by omega), if_pos (by omega)]
        · show (5 : Int) ≤ max (max k.lm (4 : Nat)) (5 : Nat)
          omega
        · rw [get_set, get_set, set_lm, if_neg (by omega), if_pos (by omega), if_pos rfl]
        · rfl
      · rw [if_neg e, if_neg e]; trivial
    · rw [if_neg hd, if_neg hd]; trivial
theorem rl_col (hk : k.lm = 3) (hl : l.drop q = u) : Rl l k h (tzCol q u k) (vCol u h) := by
  unfold tzCol vCol
  rcases u with _ | ⟨c, u⟩
  · exact rl_min hk hl
  · dsimp only
    by_cases e : (c == 58) = true
    · rw [if_pos e, if_pos e]
      exact (rl_min hk (drop1 hl)).or (rl_min hk hl)
    · rw [if_neg e, if_neg e]; exact rl_min hk hl
end
/-- the machine's answer and the value's, from the hours on -/
def Rh (l : List Nat) (k : Mk) : Option Rs → Option Int → Prop
  | none, none => True
  | some x, some n => 3 ≤ x.k.lm ∧ (∀ i : Nat, i < 2 → x.k.get i = if (i : Int) ≤ k.lm then k.get i else none) ∧ ∃ p e hd h, x.k.get 2 = some p ∧ x.k.get 3 = some e ∧ p ≤ e ∧ (l.take e).drop p = hd ∧ hd ≠ [] ∧ hd.length ≤ 2 ∧ (∀ c ∈ hd, dig c = true) ∧ h = hd.foldl (fun a c => 10 * a + fig c) 0 ∧
    ((x.k.lm < 5 ∧ n = 3600 * h) ∨ (5 ≤ x.k.lm ∧ ∃ p a b, x.k.get 4 = some p ∧ x.k.get 5 = some (p + 2) ∧ (l.take (p + 2)).drop p = [a, b] ∧ dig a = true ∧ dig b = true ∧ n = 3600 * h + 60 * (10 * fig a + fig b)))
  | _, _ => False
theorem Rh.or {l : List Nat} {k : Mk} {r r' : Option Rs} {v v' : Option Int} (h1 : Rh l k r v) (h2 : Rh l k r' v') : Rh l k (r.or r') (v.or v') := by
  cases r <;> cases v <;> first | exact h1.elim | exact h2 | exact h1
theorem Rl.to_h {l : List Nat} {k : Mk} {p e : Nat} {hd : List Nat} {r : Option Rs} {v : Option Int} (hk : k.lm < 2) (he : p ≤ e) (hs : (l.take e).drop p = hd) (hn : hd ≠ []) (hle : hd.length ≤ 2) (hd' : ∀ c ∈ hd, dig c = true)
    (h : Rl l ((k.set 2 p).set 3 e) (hd.foldl (fun a c => 10 * a + fig c) 0) r v) : Rh l k r v := by
  cases r <;> cases v <;> try exact h.elim
  · trivial
  · obtain ⟨h1, h2, h3⟩ := h
    refine ⟨h1, fun i hi => ?_, p, e, hd, _, ?_, ?_, he, hs, hn, hle, hd', rfl, h3⟩
    · rw [h2 i (by omega)]
      rw [get_set, get_set, set_lm, if_neg (by omega), if_pos (by omega), if_neg (by omega)]
    · rw [h2 2 (by omega)]
      rw [get_set, get_set, set_lm, if_neg (by omega), if_pos (by omega), if_pos rfl]
    · rw [h2 3 (by omega)]; rfl
theorem take_drop1 {l u : List Nat} {q a : Nat} (hl : l.drop q = a :: u) : (l.take (q + 1)).drop q = [a] := by
  rw [List.drop_take, hl, show q + 1 - q = 1 by omega]; rfl
theorem rh_hr {l u : List Nat} {q : Nat} {k : Mk} (hk : k.lm < 2) (hl : l.drop q = u) : Rh l k (tzHr q u k) (vHr u) := by
  unfold tzHr vHr
  rcases u with _ | ⟨a, u⟩
  · trivial
  · dsimp only
    by_cases ha : dig a = true
    · rw [if_pos ha, if_pos ha]
      have hlm : ∀ e, ((k.set 2 q).set 3 e).lm = 3 := fun e => by rw [set_lm, set_lm]; omega
      have one : Rh l k (tzCol (q + 1) u ((k.set 2 q).set 3 (q + 1))) (vCol u (fig a)) := by
        refine Rl.to_h (p := q) (e := q + 1) (hd := [a]) hk (by omega) (take_drop1 hl) (by simp) (by simp) (by simpa using ha) ?_
        have := rl_col (h := fig a) (hlm (q + 1)) (drop1 hl)
        simpa using this
      unfold tzHr1 vHr1
      rcases u with _ | ⟨b, u⟩
      · exact one
      · dsimp only
        by_cases hb : dig b = true
        · rw [if_pos hb, if_pos hb]
          refine Rh.or ?_ one
          refine Rl.to_h (p := q) (e := q + 2) (hd := [a, b]) hk (by omega) (take_drop2 hl) (by simp) (by simp) (by simp [ha, hb]) ?_
          have := rl_col (h := 10 * fig a + fig b) (hlm (q + 2)) (drop1 (drop1 hl))
          simpa using this
        · rw [if_neg hb, if_neg hb]; exact one
    · rw [if_neg ha, if_neg ha]; trivial
end Mine
namespace Mine
open PySem
def pr : Option Nat × Option Nat → List Int
  | (some b, some e) => [(b : Int), (e : Int)]
  | _ => [-1, -1]
theorem pr_len (x : Option Nat × Option Nat) : ∃ a b, pr x = [a, b] := by
  rcases x with ⟨_ | b, _ | e⟩ <;> exact ⟨_, _, rfl⟩
theorem spans3 (s : Nat) (x : Rs) : spans 3 s x = (s : Int) :: (x.hd : Int) :: (pr (gsp x.k 0) ++ (pr (gsp x.k 1) ++ (pr (gsp x.k 2) ++ []))) := by
  unfold spans
  rw [show List.range 3 = [0, 1, 2] from rfl]
  simp only [List.flatMap_cons, List.flatMap_nil]
  rfl
/-- the machine's answer at the spans -/
structure TzM (l : List Nat) (sp : List Int) (n : Int) : Prop where
  len : sp.length = 8
  hrs : ∃ p e : Nat, ∃ hd : List Nat, sp.getD 4 (-1) = p ∧ sp.getD 5 (-1) = e ∧ (l.take e).drop p = hd ∧ hd ≠ [] ∧ hd.length ≤ 2 ∧ (∀ c ∈ hd, dig c = true) ∧
    ∃ mm : Int, ((sp.getD 6 (-1) = -1 ∧ mm = 0) ∨ ∃ p' a b : Nat, sp.getD 6 (-1) = p' ∧ sp.getD 7 (-1) = (p' + 2 : Nat) ∧ (l.take (p' + 2)).drop p' = [a, b] ∧ dig a = true ∧ dig b = true ∧ mm = 10 * fig a + fig b) ∧
    ∃ neg : Bool, ((sp.getD 2 (-1) = -1 ∧ neg = false) ∨ ∃ p'' c : Nat, sp.getD 2 (-1) = p'' ∧ sp.getD 3 (-1) = (p'' + 1 : Nat) ∧ (l.take (p'' + 1)).drop p'' = [c] ∧ neg = (c == 45)) ∧
    n = if neg then -(3600 * hd.foldl (fun a c => 10 * a + fig c) 0 + 60 * mm) else 3600 * hd.foldl (fun a c => 10 * a + fig c) 0 + 60 * mm
theorem tzM_of {l : List Nat} {k : Mk} {x : Rs} {n : Int} {neg : Bool} (h : Rh l k (some x) (some n))
    (h0 : (gsp x.k 0 = (none, none) ∧ neg = false) ∨ ∃ q c : Nat, gsp x.k 0 = (some q, some (q + 1)) ∧ (l.take (q + 1)).drop q = [c] ∧ neg = (c == 45)) :
    spOk 3 x.k ∧ TzM l (spans 3 0 x) (if neg then -n else n) := by
  obtain ⟨hlm, _, p, e, hd, hh, g2, g3, hpe, hsl, hne, hle, hdg, ehh, hm⟩ := h
  have e1 : gsp x.k 1 = (some p, some e) := by
    unfold gsp
    rw [if_pos (by omega)]
    show (x.k.get 2, x.k.get 3) = _
    rw [g2, g3]
  have e2 : (gsp x.k 2 = (none, none) ∧ n = 3600 * hh) ∨ ∃ p' a b : Nat, gsp x.k 2 = (some p', some (p' + 2)) ∧ (l.take (p' + 2)).drop p' = [a, b] ∧ dig a = true ∧ dig b = true ∧ n = 3600 * hh + 60 * (10 * fig a + fig b) := by
    rcases hm with ⟨h5, en⟩ | ⟨h5, p', a, b, g4, g5, hs, ha, hb, en⟩
    · exact .inl ⟨by unfold gsp; rw [if_neg (by omega)], en⟩
    · refine .inr ⟨p', a, b, ?_, hs, ha, hb, en⟩
      unfold gsp
      rw [if_pos (by omega)]
      show (x.k.get 4, x.k.get 5) = _
      rw [g4, g5]
  subst ehh
  refine ⟨?_, ?_⟩
  · intro g hg b' e' hg'
    rcases g with _ | _ | _ | g
    · rcases h0 with ⟨h0, _⟩ | ⟨q, c, h0, _⟩
      · rw [h0] at hg'; cases hg'
      · rw [h0] at hg'; cases hg'; omega
    · rw [e1] at hg'; cases hg'; exact hpe
    · rcases e2 with ⟨e2, _⟩ | ⟨p', a, b, e2, _⟩
      · rw [e2] at hg'; cases hg'
      · rw [e2] at hg'; cases hg'; omega
    · omega
  · rw [spans3, e1]
    obtain ⟨x0, y0, hx0⟩ := pr_len (gsp x.k 0)
    obtain ⟨x2, y2, hx2⟩ := pr_len (gsp x.k 2)
    refine ⟨by rw [hx0, hx2]; rfl, p, e, hd, by rw [hx0]; rfl, by rw [hx0]; rfl, hsl, hne, hle, hdg, ?_⟩
    rcases e2 with ⟨e2, en⟩ | ⟨p', a, b, e2, hs, ha, hb, en⟩
    · refine ⟨0, .inl ⟨by rw [hx0, e2]; rfl, rfl⟩, neg, ?_, by rw [en]; simp⟩
      rcases h0 with ⟨h0, hn⟩ | ⟨q, c, h0, hs0, hn⟩
      · exact .inl ⟨by rw [h0]; rfl, hn⟩
      · exact .inr ⟨q, c, by rw [h0]; rfl, by rw [h0]; rfl, hs0, hn⟩
    · refine ⟨10 * fig a + fig b, .inr ⟨p', a, b, by rw [hx0, e2]; rfl, by rw [hx0, e2]; rfl, hs, ha, hb, rfl⟩, neg, ?_, by rw [en]⟩
      rcases h0 with ⟨h0, hn⟩ | ⟨q, c, h0, hs0, hn⟩
      · exact .inl ⟨by rw [h0]; rfl, hn⟩
      · exact .inr ⟨q, c, by rw [h0]; rfl, by rw [h0]; rfl, hs0, hn⟩
/-- all of it -/
theorem tz_all (l : List Nat) : match tzAll 0 l (k0 6) with
    | none => vAll l = none
    | some x => spOk 3 x.k ∧ ∃ n, vAll l = some n ∧ TzM l (spans 3 0 x) n := by
  have h2 := rh_hr (l := l) (q := 0) (k := k0 6) (by decide) rfl
  have two : match tzHr 0 l (k0 6) with
    | none => vHr l = none
    | some x => spOk 3 x.k ∧ ∃ n, vHr l = some n ∧ TzM l (spans 3 0 x) n := by
    rw [show l.drop 0 = l from rfl] at h2
    cases ht : tzHr 0 l (k0 6) with
    | none => rw [ht] at h2; cases hv : vHr l with
      | none => rfl
      | some n => rw [hv] at h2; exact h2.elim
    | some x => rw [ht] at h2; cases hv : vHr l with
      | none => rw [hv] at h2; exact h2.elim
      | some n =>
        rw [hv] at h2
        have := tzM_of (neg := false) h2 (.inl ⟨?_, rfl⟩)
        · exact ⟨this.1, n, rfl, this.2⟩
        · unfold gsp
          rw [if_pos (by have := h2.1; omega)]
          show (x.k.get 0, x.k.get 1) = _
          rw [h2.2.1 0 (by omega), h2.2.1 1 (by omega)]
          rfl
  unfold tzAll vAll
  rcases l with _ | ⟨c, u⟩
  · exact two
  · have hsg : match tzSg 0 (c :: u) (k0 6) with
      | none => vSg (c :: u) = none
      | some x => spOk 3 x.k ∧ ∃ n, vSg (c :: u) = some n ∧ TzM (c :: u) (spans 3 0 x) n := by
      unfold tzSg vSg
      dsimp only
      by_cases hs : sgn c = true
      · rw [if_pos hs, if_pos hs]
        have h3 := rh_hr (l := c :: u) (q := 1) (k := ((k0 6).set 0 0).set 1 1) (by decide) rfl
        rw [show (c :: u).drop 1 = u from rfl] at h3
        cases ht : tzHr (0 + 1) u (((k0 6).set 0 0).set 1 (0 + 1)) with
        | none => rw [ht] at h3; cases hv : vHr u with
          | none => rfl
          | some n => rw [hv] at h3; exact h3.elim
        | some x => rw [ht] at h3; cases hv : vHr u with
          | none => rw [hv] at h3; exact h3.elim
          | some n =>
            rw [hv] at h3
            have := tzM_of (neg := c == 45) h3 (.inr ⟨0, c, ?_, rfl, rfl⟩)
            · refine ⟨this.1, _, rfl, ?_⟩
              by_cases hc : c = 45
              · subst hc; exact this.2
              · show TzM _ _ (if c = 45 then -n else n)
                rw [if_neg hc]
                have h4 := this.2
                rw [if_neg (by simpa using hc)] at h4
                exact h4
            · unfold gsp
              rw [if_pos (by have := h3.1; omega)]
              show (x.k.get 0, x.k.get 1) = _
              rw [h3.2.1 0 (by omega), h3.2.1 1 (by omega)]
              rfl
      · rw [if_neg hs, if_neg hs]
    cases ht : tzSg 0 (c :: u) (k0 6) with
    | none => rw [ht] at hsg; rw [Option.none_or, show vSg (c :: u) = none from hsg, Option.none_or]; exact two
    | some x =>
      rw [ht] at hsg
      obtain ⟨a, n, e, t⟩ := hsg
      rw [e]
      exact ⟨a, n, rfl, t⟩
end Mine
namespace Mine
open PySem PySem.W PySem.Spec PySem.Calls PyProof.Rows
/-! values as plain data -/
mutual
inductive AD (σ : Sto) : AV → PyData → Prop
  | none : AD σ .none .none
  | bool (b) : AD σ (.bool b) (.bool b)
  | int (i) : AD σ (.int i) (.int i)
  | str (x) : AD σ (.str x) (.str x)
  | list {a xs ds} : (a, AO.list xs) ∈ σ → ADs σ xs ds → AD σ (.ref a) (.list ds)
  | tuple {a xs ds} : (a, AO.tuple xs) ∈ σ → ADs σ xs ds → AD σ (.ref a) (.tuple ds)
inductive ADs (σ : Sto) : List AV → List PyData → Prop
  | nil : ADs σ [] []
  | cons {a as d ds} : AD σ a d → ADs σ as ds → ADs σ (a :: as) (d :: ds)
end
section
variable {C : Cx} {E : Value → Shared → Prop} {ρ : Loc} {σ : Sto} {Q : AV → Loc → Sto → Prop} {s : Shared}
mutual
theorem AD.reads (hs : Rel C ρ σ s) : ∀ {a : AV} {d : PyData} {v : Value}, AD σ a d → RV a v → ∃ as, Reads s.heap v d as
  | _, _, _, .none, rfl => ⟨_, .none⟩
  | _, _, _, .bool b, rfl => ⟨_, .bool b⟩
  | _, _, _, .int i, ⟨t, rfl⟩ => ⟨_, .int i t⟩
  | _, _, _, .str x, ⟨t, rfl⟩ => ⟨_, .str x t⟩
  | _, _, _, .list hm hx, rfl => by
    obtain ⟨o, e, _, _, vs, n, r, rfl⟩ := hs.led _ hm
    obtain ⟨as, h⟩ := ADs.reads hs hx r
    exact ⟨_, .list e rfl rfl (by simpa using h)⟩
  | _, _, _, .tuple hm hx, rfl => by
    obtain ⟨o, e, _, _, vs, n, r, rfl⟩ := hs.led _ hm
    obtain ⟨as, h⟩ := ADs.reads hs hx r
    exact ⟨_, .tuple e rfl rfl (by simpa using h)⟩
theorem ADs.reads (hs : Rel C ρ σ s) : ∀ {as : List AV} {ds : List PyData} {vs : List Value}, ADs σ as ds → RVs as vs → ∃ bs, ReadsAll s.heap vs ds bs
  | _, _, _, .nil, .nil => ⟨_, .nil⟩
  | _, _, _, .cons h hr, .cons r rr => by
    obtain ⟨as, h1⟩ := AD.reads hs h r
    obtain ⟨bs, h2⟩ := ADs.reads hs hr rr
    exact ⟨_, .cons h1 h2⟩
end
theorem ADs.ints : ∀ ns : List Int, ADs σ (ns.map .int) (ns.map .int)
  | [] => .nil
  | n :: ns => .cons (.int n) (ADs.ints ns)
theorem ADs.strs : ∀ ls : List (List Nat), ADs σ (ls.map fun l => .str (tx l)) (ls.map fun l => .str (tx l))
  | [] => .nil
  | l :: ls => .cons (.str _) (ADs.strs ls)
theorem c_eq_data {a b : AV} {da db : PyData} {env : Env} {n : Nat} (O : C.Ok env (n + 1)) (ha : AD σ a da) (hb : AD σ b db) (la : da.canLay0 = true) (lb : db.canLay0 = true) (hd : da.depth ≤ 5) (h : Q (.bool (PyData.eqv da db)) ρ σ) : Cmp2 C E .Eq a b Q ρ σ := by
  intro va vb ra rb s hs
  obtain ⟨as, h1⟩ := ha.reads hs ra
  obtain ⟨bs, h2⟩ := hb.reads hs rb
  have := O.units
  exact SeqAt.compareEq_reads h1 h2 la lb (by omega) ⟨.bool _, ρ, σ, rfl, hs, h⟩
theorem c_ne_data {a b : AV} {da db : PyData} {env : Env} {n : Nat} (O : C.Ok env (n + 1)) (ha : AD σ a da) (hb : AD σ b db) (la : da.canLay0 = true) (lb : db.canLay0 = true) (hd : da.depth ≤ 5) (h : Q (.bool (!PyData.eqv da db)) ρ σ) : Cmp2 C E .NotEq a b Q ρ σ := by
  intro va vb ra rb s hs
  obtain ⟨as, h1⟩ := ha.reads hs ra
  obtain ⟨bs, h2⟩ := hb.reads hs rb
  have := O.units
  exact SeqAt.compareNe_reads h1 h2 la lb (by omega) ⟨.bool _, ρ, σ, rfl, hs, h⟩
theorem c_in_data {a b : AV} {da : PyData} {ds : List PyData} {env : Env} {n : Nat} (O : C.Ok env (n + 1)) (ha : AD σ a da) (hb : AD σ b (.list ds)) (la : da.canLay0 = true) (lb : PyData.canLayAll0 ds = true) (hd : da.depth ≤ 5) (h : Q (.bool (ds.any fun y => PyData.eqv y da)) ρ σ) : Cmp2 C E .In a b Q ρ σ := by
  intro va vb ra rb s hs
  obtain ⟨as, h1⟩ := ha.reads hs ra
  obtain ⟨bs, h2⟩ := hb.reads hs rb
  have := O.units
  exact SeqAt.in_list_reads h2 h1 lb la (by omega) ⟨.bool _, ρ, σ, rfl, hs, h⟩
theorem c_notin_data {a b : AV} {da : PyData} {ds : List PyData} {env : Env} {n : Nat} (O : C.Ok env (n + 1)) (ha : AD σ a da) (hb : AD σ b (.list ds)) (la : da.canLay0 = true) (lb : PyData.canLayAll0 ds = true) (hd : da.depth ≤ 5) (h : Q (.bool (!ds.any fun y => PyData.eqv y da)) ρ σ) : Cmp2 C E .NotIn a b Q ρ σ := by
  intro va vb ra rb s hs
  obtain ⟨as, h1⟩ := ha.reads hs ra
  obtain ⟨bs, h2⟩ := hb.reads hs rb
  have := O.units
  exact SeqAt.notIn_list_reads h2 h1 lb la (by omega) ⟨.bool _, ρ, σ, rfl, hs, h⟩
/-! none, truth -/
def AV.isNone : AV → Bool
  | .none => true
  | .val v => v == .none
  | _ => false
theorem RV.isNone {a : AV} {v : Value} (h : RV a v) : (v == .none) = a.isNone := by
  cases a with
  | none => cases h; rfl
  | bool b => cases h; rfl
  | int i => obtain ⟨t, rfl⟩ := h; rfl
  | str x => obtain ⟨t, rfl⟩ := h; rfl
  | bytes x => obtain ⟨t, rfl⟩ := h; rfl
  | ref r => cases h; rfl
  | val w => cases h; rfl
theorem c_is_none {a : AV} (h : Q (.bool a.isNone) ρ σ) : Cmp2 C E .Is a .none Q ρ σ := by
  intro va vb ra rb s hs
  cases rb
  exact is_none_gen ⟨.bool _, ρ, σ, by rw [ra.isNone]; rfl, hs, h⟩
theorem c_isnot_none {a : AV} (h : Q (.bool (!a.isNone)) ρ σ) : Cmp2 C E .IsNot a .none Q ρ σ := by
  intro va vb ra rb s hs
  cases rb
  exact isnot_none_gen ⟨.bool _, ρ, σ, by rw [ra.isNone]; rfl, hs, h⟩
theorem tr_none {QB : Bool → Loc → Sto → Prop} (h : QB false ρ σ) : ATr C E .none QB ρ σ := by
  intro v rv s hs
  cases rv
  exact wpAny_pure ⟨false, ρ, σ, rfl, hs, h⟩
theorem tr_str {l : List Nat} {QB : Bool → Loc → Sto → Prop} (hl : l.length ≤ sizeLine) (h : QB (decide (l ≠ [])) ρ σ) : ATr C E (.str (tx l)) QB ρ σ := by
  intro v rv s hs
  obtain ⟨t, rfl⟩ := rv
  refine P.truthy_str (by rw [tx_len]; rw [sizeLine_eq] at hl; omega) ⟨_, ρ, σ, ?_, hs.toks _, h⟩
  rw [tx_len]
  cases l <;> simp <;> omega
theorem tr_int {i : Int} {QB : Bool → Loc → Sto → Prop} (h : QB (i != 0) ρ σ) : ATr C E (.int i) QB ρ σ := by
  intro v rv s hs
  obtain ⟨t, rfl⟩ := rv
  exact P.truthy_int ⟨_, ρ, σ, rfl, hs, h⟩
theorem tr_list {a : Addr} {xs : List AV} {QB : Bool → Loc → Sto → Prop} (hm : (a, AO.list xs) ∈ σ) (hl : xs.length ≤ sizeLine) (h : QB (!xs.isEmpty) ρ σ) : ATr C E (.ref a) QB ρ σ := by
  intro v rv s hs
  cases rv
  obtain ⟨o, e, _, _, vs, n, r, rfl⟩ := hs.led _ hm
  refine wpAny_truthy_list ⟨_, e, rfl, n, rfl⟩ (by rw [List.size_toArray, r.length]; rw [sizeLine_eq] at hl; omega) ⟨_, ρ, σ, ?_, hs.toks _, h⟩
  have := r.length
  cases xs <;> cases vs <;> simp_all
/-! int of a text of figures -/
theorem b_int_text {l : List Nat} (h1 : ∀ c ∈ l, 48 ≤ c ∧ c ≤ 57) (h2 : l ≠ []) (h3 : l.length ≤ 640) (h : Q (.int (l.foldl (fun (a : Int) (c : Nat) => 10 * a + ((c : Int) - 48)) 0)) ρ σ) : ACall C E (.type "int") [.str (tx l)] Q ρ σ := by
  intro vs hv s hs
  obtain ⟨t, rfl⟩ : ∃ t, vs = [.str (tx l) t] := by
    cases hv with
    | cons r hr => cases hr; obtain ⟨t, rfl⟩ := r; exact ⟨t, rfl⟩
  have e : PySem.intText? (tx l) = some (l.foldl (fun (a : Int) (c : Nat) => 10 * a + ((c : Int) - 48)) 0) := by
    rw [PySem.intText_digits (x := tx l) (by rw [tx_cps]; exact h1) (by rw [tx_cps]; exact h2) (by rw [tx_len]; omega), tx_cps]
    congr 1
    unfold NumText.digitsVal
    have : ∀ (l : List Nat) (n : Nat), (∀ c ∈ l, 48 ≤ c ∧ c ≤ 57) → ((l.foldl (fun acc c => acc * 10 + (c - 48)) n : Nat) : Int) = l.foldl (fun (a : Int) (c : Nat) => 10 * a + ((c : Int) - 48)) (n : Int) := by
      intro l
      induction l with
      | nil => intro n _; rfl
      | cons c l ih =>
        intro n hl
        rw [List.foldl_cons, List.foldl_cons, ih _ fun c' h' => hl c' (.tail _ h')]
        congr 1
        have := hl c (.head _)
        omega
    exact this l 0 h1
  exact KIN.call_text e (by rw [tx_len]; exact h3) ⟨.int _, ρ, σ, ⟨_, rfl⟩, hs.toks _, h⟩
/-! isinstance -/
theorem b_isi {v : AV} {T : String} {r : Bool} (hc : ∀ va, RV v va → ∀ s (P : Value → Shared → Prop), P (.bool r) s → (∀ n, P (.bool r) { s with toks := n }) → wpAny (model C.prog C.w) C.A (call (.builtin "isinstance") [va, .type T]) P E s) (h : Q (.bool r) ρ σ) :
    ACall C E (.builtin "isinstance") [v, .val (.type T)] Q ρ σ := by
  intro vs hv s hs
  obtain ⟨v1, v2, rfl, r1, r2⟩ := RVs.two' hv
  cases r2
  exact hc v1 r1 s _ ⟨.bool r, ρ, σ, rfl, hs, h⟩ fun n => ⟨.bool r, ρ, σ, rfl, hs.toks n, h⟩
theorem b_isi_int_int {i : Int} (h : Q (.bool true) ρ σ) : ACall C E (.builtin "isinstance") [.int i, .val (.type "int")] Q ρ σ :=
  b_isi (fun va ⟨t, e⟩ s P h1 h2 => by subst e; exact IsiPair.int_int h1) h
theorem b_isi_int_bool {i : Int} (h : Q (.bool false) ρ σ) : ACall C E (.builtin "isinstance") [.int i, .val (.type "bool")] Q ρ σ :=
  b_isi (fun va ⟨t, e⟩ s P h1 h2 => by subst e; exact IsiPair.int_bool (h2 _)) h
theorem b_isi_none_int (h : Q (.bool false) ρ σ) : ACall C E (.builtin "isinstance") [.none, .val (.type "int")] Q ρ σ :=
  b_isi (fun va e s P h1 h2 => by cases e; exact IsiPair.NoneType_int (h2 _)) h
theorem b_isi_none_bool (h : Q (.bool false) ρ σ) : ACall C E (.builtin "isinstance") [.none, .val (.type "bool")] Q ρ σ :=
  b_isi (fun va e s P h1 h2 => by cases e; exact IsiPair.NoneType_bool (h2 _)) h
end
end Mine
namespace Mine
open PySem PySem.W PySem.Spec PySem.Calls PyProof.Rows
def keyOf : Value → Option Str
  | .str x _ => some x
  | _ => none
/-- a mapping of the top: its keys are texts -/
structure Zn (K : Frag) (P : Params) (n : String) (da : Addr) (ks : List (List Nat)) : Prop where
  glob : nsIn K mainGlobals (Str.ofString n) = some (some (.ref da))
  other : (da == sysModules) = false
  obj : ∃ es sz, K.lookup da = some ⟨.type "dict", none, .dict es sz, #[]⟩ ∧ KeysLit P es.toList ∧ es.toList.map (fun e => keyOf e.key) = ks.map fun l => some (tx l)
section
variable {C : Cx} {E : Value → Shared → Prop} {ρ : Loc} {σ : Sto} {Q : AV → Loc → Sto → Prop} {s : Shared}
theorem find_keys {l : List Nat} : ∀ {es : List DictEntry} {ks : List (List Nat)}, es.map (fun e => keyOf e.key) = ks.map (fun l => some (tx l)) → (es.find? (fun d => Value.isStrOf (tx l) d.key)).isSome = decide (l ∈ ks)
  | [], [], _ => by simp
  | [], _ :: _, h => by cases h
  | _ :: _, [], h => by cases h
  | e :: es, k :: ks, h => by
    rw [List.map_cons, List.map_cons] at h
    obtain ⟨h1, h2⟩ := List.cons.inj h
    have ih := find_keys (l := l) h2
    have hk : ∃ t, e.key = .str (tx k) t := by
      cases hek : e.key with
      | str x t => rw [hek] at h1; cases h1; exact ⟨t, rfl⟩
      | _ => rw [hek] at h1; cases h1
    obtain ⟨t, hk⟩ := hk
    have hi : Value.isStrOf (tx l) e.key = decide (l = k) := by
      rw [hk]
      show (tx k == tx l) = _
      rw [tx_beq]
      by_cases e : k = l
      · subst e; simp
      · rw [decide_eq_false e, decide_eq_false (fun x => e x.symm)]
    rw [List.find?_cons, hi]
    by_cases e : l = k
    · subst e; simp
    · rw [decide_eq_false e]
      show (es.find? _).isSome = _
      rw [ih]
      simp [e]
theorem c_in_top {n : String} {da : Addr} {ks : List (List Nat)} {l : List Nat} (G : C.Gl) (Z : Zn C.K C.w.params n da ks) (h : Q (.bool (decide (l ∈ ks))) ρ σ) : Cmp2 C E .In (.str (tx l)) (.ref da) Q ρ σ := by
  intro va vb ra rb s hs
  obtain ⟨t, rfl⟩ := ra
  cases rb
  obtain ⟨es, sz, h1, h2, h3⟩ := Z.obj
  obtain ⟨m, F, _⟩ := hs.fr
  refine wpAny_in_of (strKind_is C.prog C.w (tx l) t) Z.other (mapOf_K (prog := C.prog) (G.X.keeps F.keep) h1 h2) ⟨.bool _, ρ, σ, ?_, hs.toks _, h⟩
  show Value.bool _ = Value.bool _
  congr 1
  unfold findBy
  rw [Option.isSome_map, ← Array.find?_toList]
  exact find_keys h3
end
section
variable {C : Cx} {E : Value → Shared → Prop} {ρ : Loc} {σ : Sto} {Q : AV → Loc → Sto → Prop}
theorem b_group_some {ma ta : Addr} {l hd : List Nat} {sp : List Int} {g p e : Nat} {gi : Int} (hgi : gi = g) (hm : (ma, AO.pred (MObj l ta)) ∈ σ) (ht : (ta, AO.tuple (sp.map .int)) ∈ σ) (hg : 2 * g < sp.length) (hl : l.length ≤ sizeLine)
    (e1 : sp.getD (2 * g) (-1) = (p : Nat)) (e2 : sp.getD (2 * g + 1) (-1) = (e : Nat)) (hs : (l.take e).drop p = hd) (h : Q (.str (tx hd)) ρ σ) : ACall C E (.builtin "re.Match.group") [.ref ma, .int gi] Q ρ σ := by
  subst hgi
  refine b_group hm ht hg hl (fun hn => by rw [e1, e2] at hn; omega) (fun _ _ => ?_)
  rw [e1, e2, Int.toNat_natCast, Int.toNat_natCast, hs]
  exact h
theorem b_group_none {ma ta : Addr} {l : List Nat} {sp : List Int} {g : Nat} {gi : Int} (hgi : gi = g) (hm : (ma, AO.pred (MObj l ta)) ∈ σ) (ht : (ta, AO.tuple (sp.map .int)) ∈ σ) (hg : 2 * g < sp.length) (hl : l.length ≤ sizeLine)
    (e1 : sp.getD (2 * g) (-1) = -1) (h : Q .none ρ σ) : ACall C E (.builtin "re.Match.group") [.ref ma, .int gi] Q ρ σ := by
  subst hgi
  exact b_group hm ht hg hl (fun _ => h) (fun h1 _ => by rw [e1] at h1; omega)
theorem c_eq_none_str {x : Str} {env : Env} {n : Nat} (O : C.Ok env (n + 1)) (hx : PyData.strOk x = true) (h : Q (.bool false) ρ σ) : Cmp2 C E .Eq .none (.str x) Q ρ σ := c_eq_data O .none (.str x) (by simp only [PyData.canLay0]) (by simp only [PyData.canLay0]; exact hx) (by simp only [PyData.depth]; omega) (by simpa only [PyData.eqv] using h)
theorem strOk_tx {l : List Nat} (h : ∀ c ∈ l, c < 0x110000) : PyData.strOk (tx l) = true := by
  unfold PyData.strOk tx
  rw [Array.all_eq_true']
  intro c hc
  exact decide_eq_true (h c (by simpa using hc))
theorem dig_le {c : Nat} (h : dig c = true) : 48 ≤ c ∧ c ≤ 57 := by
  unfold dig Sre.isDigit at h
  simpa using h
end
/-- what offset_from_tz_string says of a text -/
def tzNames : List (List Nat) := [[71, 77, 84], [85, 84, 67], [85, 84], [90]]
def optAV : Option Int → AV
  | none => .none
  | some n => .int n
def tzVal (l : List Nat) : Option Int := if l ∈ tzNames then some 0 else vAll l
theorem law_wq {prog p : Program} {w : World} {s₁ : Shared} {h₁ : Heap} {tk₁ : Nat} {L f a : Addr} {q : Str} {sc : Scope} {cd : Value} {cl : List (Str × Addr)} {body : List Stmt} {m mg mb : Str → Option Value} {K : Frag} {loose : List Str} {mean : ExcName → Option Value} {Q : Flow → Shared → Prop} {E : Value → Shared → Prop} {vs : List Value} {ns : List Int} {cells : List (Addr × Obj)}
    (pw : Program) (clf : Addr → List (Str × Addr)) (σ : Addr → Sto)
    (KX : K.In s₁.heap) (T : Top p loose mean mg mb s₁.heap) (B : Below callerA s₁.heap [] s₁.heap) (hL : s₁.heap.IsList a vs.toArray) (hI : IntsAre vs ns) (F : Fr s₁.heap L h₁ m) (N : News s₁.heap L h₁ cells)
    (hbody : body = fnBody pw "law") (hsc : sc = fnScope pw "law") (hcl : cl = clf L) (hm : m (Str.ofString "script") = some (.ref a))
    (hσ : ∀ p ∈ σ L, ∃ o, (p.1, o) ∈ cells ∧ RO p.2 o) (nd : ((σ L).map (·.1)).Nodup) (hk : (fnScope pw "law").kind = .function)
    (law : ∀ C : Cx, C.K = K → C.w = w → C.Ok (envX q (fnScope pw "law") C.L f cd (clf C.L)) 20 → BaseL C a (ns.map .int) → AW RF C E (execs (fnBody pw "law") (envX q (fnScope pw "law") C.L f cd (clf C.L))) (fun fl _ _ => fl = .ret (.bool true)) [(Str.ofString "script", .ref a)] (σ C.L))
    (hQ : ∀ h tk m, Fr s₁.heap L h m → Q (.ret (.bool true)) { s₁ with heap := h, toks := tk }) :
    wpAny (model prog w) (callerA.deeper (envX q sc L f cd cl)) (execs body (envX q sc L f cd cl)) Q E { s₁ with heap := h₁, toks := tk₁ } := by
  subst hbody hsc hcl
  let C : Cx := { prog := prog, w := w, A := callerA.deeper (envX q (fnScope pw "law") L f cd (clf L)), A₀ := callerA, base := s₁.heap, outer := [], h₀ := s₁.heap, L := L, s₀ := s₁, K := K, p := p, loose := loose, mg := mg, mb := mb }
  have O : C.Ok (envX q (fnScope pw "law") C.L f cd (clf C.L)) 20 := by
    refine ⟨B, KX, topRead_of T, Around.frames_deeper B.stack, rfl, hk, rfl, ?_, ?_⟩
    · show callerA.depth + 1 + 20 < recursionLimit
      decide
    · show callerA.units + 3 + 10 * 20 < cLine
      decide
  have hs : Rel C [(Str.ofString "script", .ref a)] (σ L) { s₁ with heap := h₁, toks := tk₁ } := by
    refine ⟨⟨h₁, tk₁, rfl⟩, ⟨m, F, fun x v e => ?_⟩, fun p hp => ?_, nd⟩
    · have := lk_mem e
      rw [List.mem_singleton] at this
      cases this
      exact ⟨_, hm, rfl⟩
    · obtain ⟨o, ho, r⟩ := hσ p hp
      exact ⟨o, (N _ ho).1, (N _ ho).2.1, (N _ ho).2.2, r⟩
  refine wpAny_mono (law C rfl rfl O ⟨vs, rvs_ints hI, hL⟩ _ hs) (fun fl s' ⟨fl', ρ', σ', rf, hr, e⟩ => ?_) fun _ _ e => e
  subst e
  obtain ⟨v, rfl, rv⟩ := rf
  cases rv
  obtain ⟨⟨h, tk, e⟩, ⟨m', F', _⟩, _, _⟩ := hr
  subst e
  exact hQ h tk m' F'
end Mine
namespace Mine
open PySem PySem.W PySem.Spec PySem.Calls PyProof.Rows
section
variable {C : Cx} {E : Value → Shared → Prop} {ρ : Loc} {σ : Sto} {Q : AV → Loc → Sto → Prop} {I : Addr}
/-- an iterator over a text -/
abbrev siterO (l : List Nat) (i : Nat) : AO := .pred fun o => o.cls = .type (strIterType (tx l)) ∧ ∃ t, o.data = .fields #[.str (tx l) t, .int i 0]
theorem it_str {l : List Nat} {P : Addr → Loc → Sto → Prop} (h : ∀ I, P I ρ ((I, siterO l 0) :: σ)) : AIt C E (.str (tx l)) P ρ σ := by
  rintro _ ⟨t, rfl⟩ s hs
  exact wpAny_pyIter_strU ⟨_, _, _, rfl, hs.push (ao := siterO l 0) ⟨rfl, t, rfl⟩ rfl s.toks, h _⟩
theorem tx_get (l : List Nat) (i : Nat) : (tx l).cps[i]? = l[i]? := by simp [tx]
theorem nx_str {l : List Nat} {i c : Nat} {σ' : Sto} (hc : l[i]? = some c) : NxI C I (siterO l i) σ' (.str (tx [c])) (siterO l (i + 1)) := by
  intro ρ s E Q hs k
  obtain ⟨o, ho, _, _, hcl, t, hd⟩ := hs.led (I, siterO l i) (.head _)
  have hx : (tx l).cps[i]? = some c := by rw [tx_get]; exact hc
  cases ha : (tx l).cps.all (· < 128) with
  | true =>
    have e : strIterType (tx l) = "str_ascii_iterator" := by unfold strIterType; rw [ha]; rfl
    refine wpAny_pyNext_ascii_item (it := I) (x := tx l) (t := t) (i := i) (c := c) ⟨o, ho, by rw [hcl, e], hd⟩ hx fun h' hi hsb => ?_
    obtain ⟨o', ho', hc', hd'⟩ := hi
    exact k _ _ ⟨_, rfl⟩ (hs.updP hsb ho' (ao' := siterO l (i + 1)) ⟨by rw [hc', e], t, hd'⟩ _)
  | false =>
    have e : strIterType (tx l) = "str_iterator" := by unfold strIterType; rw [ha]; rfl
    refine wpAny_pyNext_wide_item (it := I) (x := tx l) (t := t) (i := i) (c := c) ⟨o, ho, by rw [hcl, e], hd⟩ hx fun h' hi hsb => ?_
    obtain ⟨o', ho', hc', hd'⟩ := hi
    exact k _ _ ⟨_, rfl⟩ (hs.updP hsb ho' (ao' := siterO l (i + 1)) ⟨by rw [hc', e], t, hd'⟩ _)
theorem nx_str_end {l : List Nat} {i : Nat} {σ' : Sto} (hh : C.A.handled = none) (hi : l.length ≤ i) : NxE C I (siterO l i) σ' := by
  intro ρ s E Q hs k
  obtain ⟨o, ho, _, _, hcl, t, hd⟩ := hs.led (I, siterO l i) (.head _)
  have hx : (tx l).cps[i]? = none := by rw [tx_get]; exact List.getElem?_eq_none hi
  cases ha : (tx l).cps.all (· < 128) with
  | true =>
    have e : strIterType (tx l) = "str_ascii_iterator" := by unfold strIterType; rw [ha]; rfl
    exact wpAny_pyNext_ascii_end hh (it := I) (x := tx l) (t := t) (i := i) ⟨o, ho, by rw [hcl, e], hd⟩ hx fun h' he => k _ (hs.extP he s.toks)
  | false =>
    have e : strIterType (tx l) = "str_iterator" := by unfold strIterType; rw [ha]; rfl
    exact wpAny_pyNext_wide_end hh (it := I) (x := tx l) (t := t) (i := i) ⟨o, ho, by rw [hcl, e], hd⟩ hx fun h' he => k _ (hs.extP he s.toks)
theorem ns_str {l : List Nat} {i : Nat} : NxS C I (siterO l i) := fun o ho s E Q e hq => by
  obtain ⟨hcl, t, hd⟩ := ho
  cases ha : (tx l).cps.all (· < 128) with
  | true =>
    have e' : strIterType (tx l) = "str_ascii_iterator" := by unfold strIterType; rw [ha]; rfl
    exact wpAny_pyIter_striter_ascii (it := I) (x := tx l) (t := t) (i := i) ⟨o, e, by rw [hcl, e'], hd⟩ hq
  | false =>
    have e' : strIterType (tx l) = "str_iterator" := by unfold strIterType; rw [ha]; rfl
    exact wpAny_pyIter_striter_wide (it := I) (x := tx l) (t := t) (i := i) ⟨o, e, by rw [hcl, e'], hd⟩ hq
theorem iter_str {l : List Nat} (hh : C.A.handled = none) : Iter C (siterO l) (l.map fun c => .str (tx [c])) (fun _ => True) where
  item := fun I σ i v _ hv => by
    rw [List.getElem?_map] at hv
    cases hl : l[i]? with
    | none => rw [hl] at hv; cases hv
    | some c => rw [hl] at hv; cases hv; exact nx_str hl
  fin := fun I σ _ => nx_str_end hh (by rw [List.length_map]; omega)
  self := fun _ _ => ns_str
  more := fun _ _ h => h
/-! two names at once -/
theorem Rel.extNew {s : Shared} (hs : Rel C ρ σ s) {h' : Heap} (he : Heap.ExtBut s.heap.objs.size s.heap h') : Rel C ρ σ { s with heap := h' } := hs.keeps (h' := h') (fun b o e => he b o (Nat.ne_of_lt (Heap.lt_size e)) e) s.toks
def ATup2 (a : AV) (σ : Sto) (P : AV → AV → Prop) : Prop := ∃ t u v, a = .ref t ∧ (t, AO.tuple [u, v]) ∈ σ ∧ P u v
theorem atup2 {t : Addr} {u v : AV} {P : AV → AV → Prop} (hm : (t, AO.tuple [u, v]) ∈ σ) (h : P u v) : ATup2 (.ref t) σ P := ⟨t, u, v, rfl, hm, h⟩
theorem Rel.isTuple {s : Shared} (hs : Rel C ρ σ s) {t : Addr} {xs : List AV} (hm : (t, AO.tuple xs) ∈ σ) : ∃ vs, RVs xs vs ∧ s.heap.IsTuple t vs.toArray := by
  obtain ⟨o, e, _, _, vs, n, r, rfl⟩ := hs.led _ hm
  exact ⟨vs, r, ⟨_, e, rfl, n, rfl⟩⟩
variable {env : Env} {pos : Pos} {QF : AF → Loc → Sto → Prop}
theorem in_order2 {x y : Str} {px py : Pos} {u v : AV} {vu vv : Value} {Q : Loc → Sto → Prop} (ru : RV u vu) (rv : RV v vv) (h : ASt C E env x u (fun ρ₂ σ₂ => ASt C E env y v Q ρ₂ σ₂) ρ σ) :
    AW (Eq (α := Unit)) C E (assignInOrder [assign (.Name x px) env, assign (.Name y py) env] [vu, vv]) (fun _ => Q) ρ σ := by
  intro s hs
  refine assignInOrder_cons (wpAny_assign_Name ((h vu ru).lift1 hs fun _ _ ρ₁ σ₁ s₁ _ hs₁ h₁ => ?_))
  refine assignInOrder_cons (wpAny_assign_Name ((h₁ vv rv).lift1 hs₁ fun _ _ ρ₂ σ₂ s₂ _ hs₂ h₂ => ?_))
  exact assignInOrder_nil ⟨(), ρ₂, σ₂, rfl, hs₂, h₂⟩
theorem ex_assign2 {x y : Str} {px py tp : Pos} {k : Nat} {e : Expr} (hh : C.A.handled = none)
    (h : AW RV C E (eval e env) (fun a ρ₁ σ₁ => ATup2 a σ₁ fun u v => ASt C E env x u (fun ρ₂ σ₂ => ASt C E env y v (QF .next) ρ₂ σ₂) ρ₁ σ₁) ρ σ)
    (hs0 : swapsWithSole [.Tuple [.Name x px, .Name y py] k tp] e pos.line env = pure false) (hw : swappedStores [.Tuple [.Name x px, .Name y py] k tp] e env = pure none) :
    AW RF C E (exec (.Assign [.Tuple [.Name x px, .Name y py] k tp] e pos) env) QF ρ σ := by
  intro s hs
  refine wpAny_Assign_stores (h.lift1 hs fun va a ρ₁ σ₁ s₁ ra hs₁ h₁ => ?_) hs0 hw
  obtain ⟨t, u, v, rfl, hm, h₂⟩ := h₁
  cases ra
  obtain ⟨vs, r, ht⟩ := hs₁.isTuple hm
  obtain ⟨vu, vv, rfl, ru, rv⟩ := RVs.two' r
  show wpAny _ _ (assign (.Tuple [.Name x px, .Name y py] k tp) env (.ref t)) _ _ _
  refine wpAny_assign_Tuple hh ht rfl rfl fun h' he => ?_
  exact (in_order2 ru rv h₂).lift1 (hs₁.extNew he) fun _ _ ρ₂ σ₂ s₂ _ hs₂ h₃ => ⟨.next, ρ₂, σ₂, rfl, hs₂, h₃⟩
theorem assignStores_some {env : Env} {v : Value} {names : List Str} {stores : List (Value → Sem Unit)} : assignStores env v (some names) stores = (do
    rule "assign.swapped-stores"
    let items ← unpackItems v names.length none
    assignInOrder (names.reverse.map fun n => bindName env n) items.reverse
    pure Flow.next) := rfl
theorem ex_assign2s {x y : Str} {px py tp : Pos} {k : Nat} {e : Expr} (hh : C.A.handled = none)
    (h : AW RV C E (eval e env) (fun a ρ₁ σ₁ => ATup2 a σ₁ fun u v => ASt C E env y v (fun ρ₂ σ₂ => ASt C E env x u (QF .next) ρ₂ σ₂) ρ₁ σ₁) ρ σ)
    (hs0 : swapsWithSole [.Tuple [.Name x px, .Name y py] k tp] e pos.line env = pure false) (hw : swappedStores [.Tuple [.Name x px, .Name y py] k tp] e env = pure (some [x, y])) :
    AW RF C E (exec (.Assign [.Tuple [.Name x px, .Name y py] k tp] e pos) env) QF ρ σ := by
  intro s hs
  rw [exec_Assign_arm]
  refine wpAny_bind (wpAny_standAt ?_)
  rw [hs0]
  refine wpAny_bind (wpAny_pure ?_)
  rw [if_neg (by decide)]
  refine wpAny_bind (h.lift1 hs fun va a ρ₁ σ₁ s₁ ra hs₁ h₁ => ?_)
  rw [hw]
  refine wpAny_bind (wpAny_pure ?_)
  obtain ⟨t, u, v, rfl, hm, h₂⟩ := h₁
  cases ra
  obtain ⟨vs, r, ht⟩ := hs₁.isTuple hm
  obtain ⟨vu, vv, rfl, ru, rv⟩ := RVs.two' r
  rw [assignStores_some]
  refine wpAny_bind (wpAny_rule (wpAny_bind ?_))
  rw [show ([x, y] : List Str).length = ([vu, vv] : List Value).toArray.size from rfl]
  refine wpAny_unpackItems_tuple hh ht fun h' he => ?_
  refine wpAny_bind ?_
  rw [show ([x, y] : List Str).reverse.map (fun n => bindName env n) = [bindName env y, bindName env x] from rfl, show ([vu, vv] : List Value).toArray.toList.reverse = [vv, vu] from rfl]
  refine assignInOrder_cons (wpAny_bindName ((h₂ vv rv).lift1 (hs₁.extNew he) fun _ _ ρ₂ σ₂ s₂ _ hs₂ h₃ => ?_))
  refine assignInOrder_cons (wpAny_bindName ((h₃ vu ru).lift1 hs₂ fun _ _ ρ₃ σ₃ s₃ _ hs₃ h₄ => ?_))
  exact assignInOrder_nil (wpAny_pure ⟨.next, ρ₃, σ₃, rfl, hs₃, h₄⟩)
theorem b_divmod {a b : Int} (hb : 0 < b) (hp : b.natAbs < 2 ^ 64) (h : ∀ t, Q (.ref t) ρ ((t, .tuple [.int (a / b), .int (a % b)]) :: σ)) : ACall C E (.builtin "divmod") [.int a, .int b] Q ρ σ := by
  intro vs hv s hs
  obtain ⟨v1, v2, rfl, ⟨t1, rfl⟩, t2, rfl⟩ := RVs.two' hv
  refine divmod_int (by omega) ?_ (.inl (PyProof.noPylong_of_log2 (by
    have := (Nat.log2_lt (by omega) (k := 64)).mpr hp
    omega)))
  rw [Int.fdiv_eq_ediv_of_nonneg _ (by omega), Int.fmod_eq_emod_of_nonneg _ (by omega)]
  exact ⟨.ref _, ρ, _, rfl, hs.push (ao := .tuple [.int (a / b), .int (a % b)]) ⟨[.int (a / b) s.toks, .int (a % b) (s.toks + 1)], 0, .cons ⟨_, rfl⟩ (.cons ⟨_, rfl⟩ .nil), rfl⟩ rfl _, h _⟩
/-! split at one sign -/
theorem join_eq : ∀ (sep : Str) (ls : List Str), Str.join sep ls = Txt.join sep ls := fun sep ls => (StrLaws.glued_eq_join _ _).symm
def spl (c : Nat) : List Nat → List (List Nat)
  | [] => [[]]
  | a :: u => if a = c then [] :: spl c u else match spl c u with
    | p :: ps => (a :: p) :: ps
    | [] => [[a]]
theorem spl_free {c : Nat} : ∀ {p : List Nat}, c ∉ p → spl c p = [p]
  | [], _ => rfl
  | a :: p, h => by
    unfold spl
    rw [if_neg (fun e => h (by simp [e])), spl_free (fun e => h (.tail _ e))]
theorem spl_cut {c : Nat} {u : List Nat} : ∀ {p : List Nat}, c ∉ p → spl c (p ++ c :: u) = p :: spl c u
  | [], _ => by show spl c (c :: u) = _; rw [spl, if_pos rfl]
  | a :: p, h => by
    show spl c (a :: (p ++ c :: u)) = _
    rw [spl, if_neg (fun e => h (by simp [e])), spl_cut (fun e => h (.tail _ e))]
theorem spl_join {c : Nat} : ∀ {ps : List (List Nat)}, ps ≠ [] → (∀ p ∈ ps, c ∉ p) → spl c (joinL [c] ps) = ps
  | [], h, _ => absurd rfl h
  | [p], _, hp => spl_free (hp p (.head _))
  | p :: q :: r, _, hp => by
    show spl c (p ++ [c] ++ joinL [c] (q :: r)) = _
    rw [List.append_assoc, show [c] ++ joinL [c] (q :: r) = c :: joinL [c] (q :: r) from rfl, spl_cut (hp p (.head _)), spl_join (by simp) fun x hx => hp x (.tail _ hx)]
theorem split_spl (l : List Nat) (c : Nat) : Txt.split (tx l) (tx [c]) = (spl c l).map tx := by
  have h1 := StrLaws.join_split (tx l) (tx [c])
  have h2 := StrLaws.split_free (tx l) c
  have h3 := split_pos (tx l) (tx [c])
  have e : Txt.split (tx l) (tx [c]) = ((Txt.split (tx l) (tx [c])).map fun x => x.cps.toList).map tx := by
    rw [List.map_map]
    conv => lhs; rw [← List.map_id (Txt.split (tx l) (tx [c]))]
    exact List.map_congr_left fun x _ => str_tx x
  generalize hps : (Txt.split (tx l) (tx [c])).map (fun x => x.cps.toList) = ps at e
  have hf : ∀ p ∈ ps, c ∉ p := by
    intro p hp
    rw [← hps] at hp
    obtain ⟨x, hx, rfl⟩ := List.mem_map.mp hp
    exact h2 x hx
  rw [e, join_eq, tx_join] at h1
  have h1' : joinL [c] ps = l := by rw [← tx_cps (joinL [c] ps), h1, tx_cps]
  have hne : ps ≠ [] := by
    intro e0
    rw [e, e0] at h3
    simp at h3
  rw [e, ← h1', spl_join hne hf]
theorem rvs_strsFrom : ∀ (xs : List Str) (tk : Nat), RVs (xs.map AV.str) (strsFrom tk xs)
  | [], _ => .nil
  | x :: r, tk => .cons ⟨tk, rfl⟩ (rvs_strsFrom r (tk + 1))
theorem b_split_raw {x y : Str} (hy : (y.length == 0) = false) (hx : x.length ≤ sizeLine) (hn : (Txt.split x y).length ≤ sizeLine) (h : ∀ D, Q (.ref D) ρ ((D, .list ((Txt.split x y).map .str)) :: σ)) : ACall C E (.builtin "str.split") [.str x, .str y] Q ρ σ := by
  intro vs hv s hs
  obtain ⟨v1, v2, rfl, ⟨t, rfl⟩, u, rfl⟩ := RVs.two' hv
  unfold Txt.split at h hn
  cases h1 : (decide (x.length < y.length) || decide (Builtin.Str.strKind x < Builtin.Str.strKind y)) with
  | true =>
    rw [h1, if_pos rfl] at h
    refine call_meets F.slot_str_split (typeIs_str _ _ _) F.entry_str_split (F.args_str_split_2 _ _) (meets_str_split_cannot_occur x y t u h1) ?_
    exact ⟨.ref _, ρ, _, rfl, hs.push (ao := .list ([x].map .str)) ⟨[.str x t], 0, .cons ⟨t, rfl⟩ .nil, rfl⟩ rfl s.toks, h _⟩
  | false =>
    rw [h1, if_neg Bool.false_ne_true] at h hn
    cases hf : (Builtin.Str.occurrences x y 0 x.length (x.length + 1)).isEmpty with
    | true =>
      rw [hf, if_pos rfl] at h
      refine call_meets F.slot_str_split (typeIs_str _ _ _) F.entry_str_split (F.args_str_split_2 _ _) (meets_str_split_not_found x y t u h1 hy hf) ?_
      exact ⟨.ref _, ρ, _, rfl, hs.push (ao := .list ([x].map .str)) ⟨[.str x t], 0, .cons ⟨t, rfl⟩ .nil, rfl⟩ rfl s.toks, h _⟩
    | false =>
      rw [hf, if_neg Bool.false_ne_true] at h hn
      refine call_meets F.slot_str_split (typeIs_str _ _ _) F.entry_str_split (F.args_str_split_2 _ _) (meets_str_split_sep x y t u h1 hy hf hx hn) ?_
      exact ⟨.ref _, ρ, _, rfl, hs.push (ao := .list ((Builtin.Str.partsBetween x (Builtin.Str.occurrences x y 0 x.length (x.length + 1)) y.length).map .str)) ⟨_, 0, rvs_strsFrom _ _, rfl⟩ rfl _, h _⟩
theorem t_split {l : List Nat} {c : Nat} (hl : l.length ≤ 1000000) (h : ∀ D, Q (.ref D) ρ ((D, .list ((spl c l).map fun p => .str (tx p))) :: σ)) : ACall C E (.builtin "str.split") [.str (tx l), .str (tx [c])] Q ρ σ := by
  have h3 := split_le (tx l) (tx [c])
  rw [tx_len] at h3
  refine b_split_raw rfl (by rw [tx_len, sizeLine_eq]; omega) (by rw [sizeLine_eq]; omega) fun D => ?_
  rw [split_spl, List.map_map]
  exact h D
theorem m_split {x : Str} {pl : Sem Bool} {P : Value → List AV → Loc → Sto → Prop} (h : P (.builtin "str.split") [.str x] ρ σ) : AMeth C E (.str x) (Str.ofString "split") pl P ρ σ := by
  rintro _ ⟨t, rfl⟩ s hs
  exact GM.split ⟨[.str x], ρ, σ, .one ⟨t, rfl⟩, hs, h⟩
theorem c_in_sign {l : List Nat} {c : Nat} (h : Q (.bool (decide (c ∈ l))) ρ σ) : Cmp2 C E .In (.str (tx [c])) (.str (tx l)) Q ρ σ := by
  rintro _ _ ⟨t, rfl⟩ ⟨u, rfl⟩ s hs
  refine in_str ⟨.bool _, ρ, σ, ?_, hs, h⟩
  rw [← tx_cps l]
  exact congrArg Value.bool (StrLaws.found_one (tx l) c)
theorem c_notin_sign {l : List Nat} {c : Nat} (h : Q (.bool (!decide (c ∈ l))) ρ σ) : Cmp2 C E .NotIn (.str (tx [c])) (.str (tx l)) Q ρ σ := by
  rintro _ _ ⟨t, rfl⟩ ⟨u, rfl⟩ s hs
  refine PySem.P.notIn_str ⟨.bool _, ρ, σ, ?_, hs, h⟩
  rw [← tx_cps l]
  exact congrArg (fun b => Value.bool (!b)) (StrLaws.found_one (tx l) c)
end
end Mine
namespace Mine
open PySem PySem.W PySem.Spec PySem.Calls PyProof.Rows
theorem eqv_strs (l : List Nat) : ∀ ls : List (List Nat), ((ls.map fun l => PyData.str (tx l)).any fun y => PyData.eqv y (.str (tx l))) = decide (l ∈ ls)
  | [] => by simp
  | k :: ls => by
    rw [List.map_cons, List.any_cons, eqv_strs l ls]
    simp only [PyData.eqv, tx_beq]
    by_cases e : k = l
    · subst e; simp
    · simp [e, Ne.symm e]
theorem lay_strs : ∀ {ls : List (List Nat)}, (∀ l ∈ ls, ∀ c ∈ l, c < 0x110000) → PyData.canLayAll0 (ls.map fun l => .str (tx l)) = true
  | [], _ => by simp [PyData.canLayAll0]
  | l :: ls, h => by
    rw [List.map_cons]
    simp only [PyData.canLayAll0, PyData.canLay0, Bool.and_eq_true]
    exact ⟨strOk_tx (h l (.head _)), lay_strs fun l' h' => h l' (.tail _ h')⟩
section
variable {C : Cx} {E : Value → Shared → Prop} {ρ : Loc} {σ : Sto} {Q : AV → Loc → Sto → Prop} {env : Env} {n : Nat}
theorem c_in_strs {a : Addr} {xs : List AV} {l : List Nat} (ls : List (List Nat)) (O : C.Ok env (n + 1)) (hm : (a, AO.list xs) ∈ σ) (hx : xs = ls.map fun l => .str (tx l)) (h1 : ∀ c ∈ l, c < 0x110000) (h2 : ∀ l ∈ ls, ∀ c ∈ l, c < 0x110000)
    (h : Q (.bool (decide (l ∈ ls))) ρ σ) : Cmp2 C E .In (.str (tx l)) (.ref a) Q ρ σ := by
  subst hx
  refine c_in_data O (.str _) (.list hm (ADs.strs ls)) (by simp only [PyData.canLay0]; exact strOk_tx h1) (lay_strs h2) (by simp only [PyData.depth]; omega) ?_
  rw [eqv_strs]
  exact h
theorem eqv_ints : ∀ (a b : List Int), PyData.eqvAll (a.map .int) (b.map .int) = decide (a = b)
  | [], [] => by simp [PyData.eqvAll]
  | [], _ :: _ => by simp [PyData.eqvAll]
  | _ :: _, [] => by simp [PyData.eqvAll]
  | x :: a, y :: b => by
    simp only [List.map_cons, PyData.eqvAll, PyData.eqv, eqv_ints a b]
    by_cases e : x = y
    · subst e; simp
    · simp [e]
theorem lay_ints : ∀ ns : List Int, PyData.canLayAll0 (ns.map .int) = true
  | [] => by simp [PyData.canLayAll0]
  | n :: ns => by simp [PyData.canLayAll0, PyData.canLay0, lay_ints ns]
theorem depth_ints : ∀ ns : List Int, PyData.depthAll (ns.map .int) = 0
  | [] => by simp [PyData.depthAll]
  | n :: ns => by simp [PyData.depthAll, PyData.depth, depth_ints ns]
theorem any_rows (ns : List Int) : ∀ rs : List (List Int), ((rs.map fun r => PyData.list (r.map .int)).any fun y => PyData.eqv y (.list (ns.map .int))) = decide (ns ∈ rs)
  | [] => by simp
  | r :: rs => by
    rw [List.map_cons, List.any_cons, any_rows ns rs]
    simp only [PyData.eqv, eqv_ints]
    by_cases e : r = ns
    · subst e; simp
    · simp [e, Ne.symm e]
theorem lay_rows : ∀ rs : List (List Int), PyData.canLayAll0 (rs.map fun r => PyData.list (r.map .int)) = true
  | [] => by simp [PyData.canLayAll0]
  | r :: rs => by simp [PyData.canLayAll0, PyData.canLay0, lay_rows rs, lay_ints]
/-- a row of ints against rows of ints -/
theorem c_notin_rows {a b : Addr} {ns : List Int} {xs : List AV} (rs : List (List Int)) (O : C.Ok env (n + 1)) (ha : (a, AO.list (ns.map .int)) ∈ σ) (hb : (b, AO.list xs) ∈ σ) (hr : ADs σ xs (rs.map fun r => .list (r.map .int)))
    (h : Q (.bool (!decide (ns ∈ rs))) ρ σ) : Cmp2 C E .NotIn (.ref a) (.ref b) Q ρ σ := by
  refine c_notin_data O (.list ha (ADs.ints ns)) (.list hb hr) (by simp only [PyData.canLay0]; exact lay_ints ns) (lay_rows rs) (by simp only [PyData.depth, depth_ints]; omega) ?_
  rw [any_rows]
  exact h
theorem eqv_strl : ∀ (a b : List (List Nat)), PyData.eqvAll (a.map fun l => .str (tx l)) (b.map fun l => .str (tx l)) = decide (a = b)
  | [], [] => by simp [PyData.eqvAll]
  | [], _ :: _ => by simp [PyData.eqvAll]
  | _ :: _, [] => by simp [PyData.eqvAll]
  | x :: a, y :: b => by
    simp only [List.map_cons, PyData.eqvAll, PyData.eqv, eqv_strl a b, tx_beq]
    by_cases e : x = y
    · subst e; simp
    · simp [e]
theorem depth_strs : ∀ ls : List (List Nat), PyData.depthAll (ls.map fun l => .str (tx l)) = 0
  | [] => by simp [PyData.depthAll]
  | n :: ns => by simp [PyData.depthAll, PyData.depth, depth_strs ns]
theorem c_ne_strs {a b : Addr} {xs ys : List AV} (ls ks : List (List Nat)) (O : C.Ok env (n + 1)) (ha : (a, AO.list xs) ∈ σ) (hb : (b, AO.list ys) ∈ σ) (hx : xs = ls.map fun l => .str (tx l)) (hy : ys = ks.map fun l => .str (tx l)) (h1 : ∀ l ∈ ls, ∀ c ∈ l, c < 0x110000) (h2 : ∀ l ∈ ks, ∀ c ∈ l, c < 0x110000)
    (h : Q (.bool (!decide (ls = ks))) ρ σ) : Cmp2 C E .NotEq (.ref a) (.ref b) Q ρ σ := by
  subst hx hy
  refine c_ne_data O (.list ha (ADs.strs ls)) (.list hb (ADs.strs ks)) (by simp only [PyData.canLay0]; exact lay_strs h1) (by simp only [PyData.canLay0]; exact lay_strs h2) (by simp only [PyData.depth, depth_strs]; omega) ?_
  simp only [PyData.eqv, eqv_strl]
  exact h
/-- an answer against an answer: a number or nothing -/
def optD : Option Int → PyData
  | none => .none
  | some n => .int n
theorem ad_opt (o : Option Int) : AD σ (optAV o) (optD o) := by cases o; exact .none; exact .int _
theorem c_ne_opt {o p : Option Int} (O : C.Ok env (n + 1)) (h : Q (.bool (!decide (o = p))) ρ σ) : Cmp2 C E .NotEq (optAV o) (optAV p) Q ρ σ := by
  refine c_ne_data O (ad_opt o) (ad_opt p) (by cases o <;> simp [optD, PyData.canLay0]) (by cases p <;> simp [optD, PyData.canLay0]) (by cases o <;> simp [optD, PyData.depth]) ?_
  have e : PyData.eqv (optD o) (optD p) = decide (o = p) := by cases o <;> cases p <;> simp [optD, PyData.eqv]; rfl
  rw [e]
  exact h
end
end Mine
namespace Mine
open PySem PySem.W PySem.Spec PySem.Calls PyProof.Rows
theorem ex_seqR {C : Cx} {E : Value → Shared → Prop} {ρ : Loc} {σ : Sto} {env : Env} {QF : AF → Loc → Sto → Prop} {st : Stmt} {rest : List Stmt} (Mid : Loc → Sto → Prop) (h : AW RF C E (exec st env) (fun f ρ₁ σ₁ => match f with | .next => ∃ ρ₂ σ₂, Mid ρ₂ σ₂ ∧ SubS σ₂ σ₁ ∧ LocSub ρ₂ ρ₁ | f => QF f ρ₁ σ₁) ρ σ)
    (k : ∀ ρ₂ σ₂, Mid ρ₂ σ₂ → AW RF C E (execs rest env) QF ρ₂ σ₂) : AW RF C E (execs (st :: rest) env) QF ρ σ := by
  refine ex_cons (h.mono fun f ρ₁ σ₁ hf => ?_)
  cases f with
  | next => obtain ⟨ρ₂, σ₂, hm, hs, hl⟩ := hf; exact (k ρ₂ σ₂ hm).to hs hl
  | _ => exact hf
/-- one line feed at the end off -/
def chop (l : List Nat) : List Nat := if l.drop (l.length - 1) = [10] then l.take (l.length - 1) else l
def unsg (l : List Nat) : List Nat := if l.take 1 = [43] ∨ l.take 1 = [45] then l.drop 1 else l
theorem chop_len (l : List Nat) : (chop l).length ≤ l.length := by unfold chop; split <;> (try simp) <;> (try omega)
theorem unsg_len (l : List Nat) : (unsg l).length ≤ l.length := by unfold unsg; split <;> (try simp) <;> (try omega)
theorem spl_len (c : Nat) : ∀ l, (spl c l).length ≤ l.length + 1
  | [] => by simp [spl]
  | a :: u => by
    have ih := spl_len c u
    unfold spl
    split
    · simp; omega
    · split
      · rename_i h; rw [h] at ih; simp at ih ⊢; omega
      · simp
theorem spl_mem {c : Nat} : ∀ {l p : List Nat}, p ∈ spl c l → ∀ x ∈ p, x ∈ l
  | [], p, h, x, hx => by simp [spl] at h; subst h; cases hx
  | a :: u, p, h, x, hx => by
    unfold spl at h
    split at h
    · rcases List.mem_cons.mp h with rfl | h
      · cases hx
      · exact .tail _ (spl_mem h x hx)
    · split at h
      · rename_i q qs e
        rcases List.mem_cons.mp h with rfl | h
        · rcases List.mem_cons.mp hx with rfl | hx
          · exact .head _
          · exact .tail _ (spl_mem (c := c) (p := q) (by rw [e]; exact .head _) x hx)
        · exact .tail _ (spl_mem (c := c) (by rw [e]; exact .tail _ h) x hx)
      · rw [List.mem_singleton] at h; subst h; simp at hx; subst hx; exact .head _
theorem spl_sum (c : Nat) : ∀ l, ((spl c l).map List.length).sum ≤ l.length
  | [] => by simp [spl]
  | a :: u => by
    have ih := spl_sum c u
    unfold spl
    split
    · simp; omega
    · split
      · rename_i h; rw [h] at ih; simp at ih ⊢; omega
      · simp
end Mine
namespace Mine
open PySem PySem.W PySem.Spec PySem.Calls PyProof.Rows
theorem ad_ints {σ : Sto} {a : Addr} {xs : List AV} (ns : List Int) (hm : (a, AO.list xs) ∈ σ) (hx : xs = ns.map .int) : AD σ (.ref a) (.list (ns.map .int)) := by subst hx; exact .list hm (ADs.ints ns)
end Mine
namespace Mine
open PySem PySem.W PySem.Spec PySem.Calls PyProof.Rows
section
variable {C : Cx} {E : Value → Shared → Prop} {ρ : Loc} {σ : Sto} {env : Env} {pos : Pos} {QF : AF → Loc → Sto → Prop} {target test : Expr} {body : List Stmt} {I : Addr}
/-- a loop over items that are pictures of plain things -/
theorem for_indA {α : Type} {it : Nat → AO} {ok : Sto → Prop} (g : α → AV) (as : List α) (W : Iter C it (as.map g) ok) (J : List α → List α → Loc → Sto → Prop)
    (src : ∀ d r ρ σ, J d r ρ σ → ok σ)
    (step : ∀ d x r ρ σ, as = d ++ x :: r → J d (x :: r) ρ σ → AAs C (LE C env E) env target I (g x) (fun ρ₁ σ₁ => AW RF C (LE C env E) (execs body env) (Turn QF (fun ρ₂ σ₂ => ∃ ρ₃ σ₃, J (d ++ [x]) r ρ₃ σ₃ ∧ SubS ((I, it (d.length + 1)) :: σ₃) σ₂ ∧ LocSub ρ₃ ρ₂)) ρ₁ σ₁) ρ ((I, it (d.length + 1)) :: σ))
    (fin : ∀ ρ σ, J as [] ρ σ → QF .next ρ σ) (h0 : J [] as ρ σ) : AFor C E target I body env QF ρ ((I, it 0) :: σ) := by
  refine for_ind W (fun d' r' ρ σ => ∃ d r, d' = d.map g ∧ r' = r.map g ∧ as = d ++ r ∧ J d r ρ σ) ?_ ?_ ?_ ⟨[], as, rfl, rfl, rfl, h0⟩
  · rintro _ _ ρ σ ⟨d, r, _, _, _, h⟩; exact src _ _ _ _ h
  · rintro _ v _ ρ σ hx ⟨d, r, rfl, hr, has, hJ⟩
    cases r with
    | nil => cases hr
    | cons x r =>
      rw [List.map_cons] at hr
      obtain ⟨rfl, rfl⟩ := List.cons.inj hr
      have := step d x r ρ σ has hJ
      rw [List.length_map]
      intro vv rv s hs
      refine wpAny_mono (this vv rv s hs) (fun _ s' ⟨u, ρ₁, σ₁, eu, hs₁, h₁⟩ => ⟨u, ρ₁, σ₁, eu, hs₁, h₁.mono fun f ρ₂ σ₂ ht => ?_⟩) fun _ _ e => e
      have go : (∃ ρ₃ σ₃, J (d ++ [x]) r ρ₃ σ₃ ∧ SubS ((I, it (d.length + 1)) :: σ₃) σ₂ ∧ LocSub ρ₃ ρ₂) → ∃ ρ₃ σ₃, (∃ d_1 r_1, d.map g ++ [g x] = d_1.map g ∧ r.map g = r_1.map g ∧ as = d_1 ++ r_1 ∧ J d_1 r_1 ρ₃ σ₃) ∧ SubS ((I, it (d.length + 1)) :: σ₃) σ₂ ∧ LocSub ρ₃ ρ₂ := by
        rintro ⟨ρ₃, σ₃, hJ', h2, h3⟩
        exact ⟨ρ₃, σ₃, ⟨d ++ [x], r, by simp, rfl, by rw [has]; simp, hJ'⟩, h2, h3⟩
      cases f with
      | next => exact go ht
      | cont => exact go ht
      | brk => exact ht
      | ret w => exact ht
  · rintro ρ σ ⟨d, r, h1, h2, h3, h4⟩
    cases r with
    | nil => rw [List.append_nil] at h3; subst h3; exact fin _ _ h4
    | cons x r => cases h2
end
section
variable {C : Cx} {E : Value → Shared → Prop} {ρ : Loc} {σ : Sto} {env cenv : Env} {pos : Pos} {elt target iter : Expr} {ifs : List Expr} {scope : Scope} {I D c : Addr} {QC : Loc → Sto → Prop}
/-- a comprehension over pictures of plain things, with an invariant -/
theorem comp_indA {α : Type} {it : Nat → AO} {ok : Sto → Prop} (g : α → AV) (as : List α) (W : Iter C it (as.map g) ok) (J : List α → List α → List AV → Sto → Prop) (hx : as.length ≤ sizeLine)
    (src : ∀ d r acc σ, J d r acc σ → ok σ) (hlen : ∀ d r acc σ, J d r acc σ → acc.length ≤ d.length)
    (step : ∀ d x r acc σ, as = d ++ x :: r → J d (x :: r) acc σ → CStep C elt target iter ifs cenv I (g x)
      (fun y ρ₁ σ₁ => ∃ ρ₃ σ₃, J (d ++ [x]) r (acc ++ [y]) σ₃ ∧ SubS ((D, .list acc) :: (c, .ns ρ₃) :: (I, it (d.length + 1)) :: σ₃) σ₁ ∧ LocSub ρ ρ₁)
      (fun ρ₁ σ₁ => ∃ ρ₃ σ₃, J (d ++ [x]) r acc σ₃ ∧ SubS ((D, .list acc) :: (c, .ns ρ₃) :: (I, it (d.length + 1)) :: σ₃) σ₁ ∧ LocSub ρ ρ₁) ρ ((I, it (d.length + 1)) :: (c, .ns []) :: (D, .list acc) :: σ))
    (fin : ∀ acc ρ₂ σ, J as [] acc σ → QC ρ ((c, .ns ρ₂) :: (D, .list acc) :: σ)) (h0 : J [] as [] σ) :
    AComp C elt target iter ifs scope pos I D cenv QC ρ ((c, .ns []) :: (D, .list []) :: (I, it 0) :: σ) := by
  refine comp_ind W (fun d' r' acc σ => ∃ d r, d' = d.map g ∧ r' = r.map g ∧ as = d ++ r ∧ J d r acc σ) (by simpa using hx) ?_ ?_ ?_ ?_ ⟨[], as, rfl, rfl, rfl, h0⟩
  · rintro _ _ acc σ ⟨d, r, _, _, _, h⟩; exact src _ _ _ _ h
  · rintro _ _ acc σ ⟨d, r, rfl, _, _, h⟩; simpa using hlen _ _ _ _ h
  · rintro _ v _ acc σ hxs ⟨d, r, rfl, hr, has, hJ⟩
    cases r with
    | nil => cases hr
    | cons x r =>
      rw [List.map_cons] at hr
      obtain ⟨rfl, rfl⟩ := List.cons.inj hr
      have := step d x r acc σ has hJ
      rw [List.length_map]
      intro E' vv rv s hs
      refine wpAny_mono (this E' vv rv s hs) (fun _ s' ⟨u, ρ₁, σ₁, eu, hs₁, h₁⟩ => ⟨u, ρ₁, σ₁, eu, hs₁, ?_⟩) fun _ _ e => e
      refine AW.mono h₁ fun ok ρ₄ σ₄ h₄ => ?_
      cases ok with
      | false =>
        simp only [Bool.false_eq_true, if_false] at h₄ ⊢
        obtain ⟨ρ₃, σ₃, hJ', h2, h3⟩ := h₄
        exact ⟨ρ₃, σ₃, ⟨d ++ [x], r, by simp, rfl, by rw [has]; simp, hJ'⟩, h2, h3⟩
      | true =>
        simp only [if_true] at h₄ ⊢
        refine AW.mono h₄ fun y ρ₅ σ₅ h₅ => ?_
        obtain ⟨ρ₃, σ₃, hJ', h2, h3⟩ := h₅
        exact ⟨ρ₃, σ₃, ⟨d ++ [x], r, by simp, rfl, by rw [has]; simp, hJ'⟩, h2, h3⟩
  · rintro acc ρ₂ σ ⟨d, r, h1, h2, h3, h4⟩
    cases r with
    | nil => rw [List.append_nil] at h3; subst h3; exact fin _ _ _ h4
    | cons x r => cases h2
/-- a comprehension that leaves the store as it is -/
theorem comp_fm {α : Type} {it : Nat → AO} {ok : Sto → Prop} (g : α → AV) (as : List α) (f : α → Option AV) (W : Iter C it (as.map g) ok) (hx : as.length ≤ sizeLine) (hok : ok σ)
    (step : ∀ d x r, as = d ++ x :: r → CStep C elt target iter ifs cenv I (g x)
      (fun y ρ₁ σ₁ => ∃ ρ₃, f x = some y ∧ SubS ((D, .list (d.filterMap f)) :: (c, .ns ρ₃) :: (I, it (d.length + 1)) :: σ) σ₁ ∧ LocSub ρ ρ₁)
      (fun ρ₁ σ₁ => ∃ ρ₃, f x = none ∧ SubS ((D, .list (d.filterMap f)) :: (c, .ns ρ₃) :: (I, it (d.length + 1)) :: σ) σ₁ ∧ LocSub ρ ρ₁) ρ ((I, it (d.length + 1)) :: (c, .ns []) :: (D, .list (d.filterMap f)) :: σ))
    (fin : ∀ ρ₂, QC ρ ((c, .ns ρ₂) :: (D, .list (as.filterMap f)) :: σ)) :
    AComp C elt target iter ifs scope pos I D cenv QC ρ ((c, .ns []) :: (D, .list []) :: (I, it 0) :: σ) := by
  refine comp_indA g as W (fun d r acc σ' => acc = d.filterMap f ∧ σ' = σ) hx ?_ ?_ ?_ ?_ ⟨rfl, rfl⟩
  · rintro _ _ acc _ ⟨_, rfl⟩; exact hok
  · rintro d _ acc _ ⟨rfl, _⟩; exact List.length_filterMap_le _ _
  · rintro d x r acc _ has ⟨rfl, rfl⟩
    intro E' vv rv s hs
    refine wpAny_mono (step d x r has E' vv rv s hs) (fun _ s' ⟨u, ρ₁, σ₁, eu, hs₁, h₁⟩ => ⟨u, ρ₁, σ₁, eu, hs₁, ?_⟩) fun _ _ e => e
    refine AW.mono h₁ fun ok ρ₄ σ₄ h₄ => ?_
    cases ok with
    | false =>
      simp only [Bool.false_eq_true, if_false] at h₄ ⊢
      obtain ⟨ρ₃, hf, h2, h3⟩ := h₄
      exact ⟨ρ₃, _, ⟨by simp [hf], rfl⟩, h2, h3⟩
    | true =>
      simp only [if_true] at h₄ ⊢
      refine AW.mono h₄ fun y ρ₅ σ₅ h₅ => ?_
      obtain ⟨ρ₃, hf, h2, h3⟩ := h₅
      exact ⟨ρ₃, _, ⟨by simp [hf], rfl⟩, h2, h3⟩
  · rintro acc ρ₂ _ ⟨rfl, rfl⟩; exact fin ρ₂
end
theorem sws2 {q : Str} {sc : Scope} {L f : Addr} {cd : Value} {cl : List (Str × Addr)} {x y : Str} {px py tp tp2 : Pos} {k k2 : Nat} {v1 v2 : Expr} (hk : sc.kind = .function) (hx : sc.names.lookup x = some .local) (hy : sc.names.lookup y = some .local) (hl : (py.line == px.line) = true) (hne : (y == x) = false)
    (hst : ([v1, v2].any fun | .Starred .. => true | _ => false) = false) (hf : [v1, v2].all (foldedForSure 8) = false) (hc : [v1, v2].all (constantsAlone 8) = false) :
    swappedStores [.Tuple [.Name x px, .Name y py] k tp] (.Tuple [v1, v2] k2 tp2) (envX q sc L f cd cl) = pure (some [x, y]) := by
  have hb : (envX q sc L f cd cl).blockKind = .function := by
    unfold Env.blockKind
    rw [show (envX q sc L f cd cl).scope.kind = .function from hk]; rfl
  have e1 : (envX q sc L f cd cl).kindOf x = some .local := hx
  have e2 : (envX q sc L f cd cl).kindOf y = some .local := hy
  have hn : ([Expr.Name x px, Expr.Name y py].filterMap fun
    | .Name id pos => if ((envX q sc L f cd cl).kindOf id == some .local && pos.line == px.line) = true then some id else none
    | _ => none) = [x, y] := by
    simp only [List.filterMap_cons, List.filterMap_nil, e1, e2, hl]
    simp
  unfold swappedStores
  simp only [hb]
  refine (if_neg (by intro h; simp at h)).trans ?_
  refine (if_neg (by rw [Bool.not_eq_true]; exact hst)).trans ?_
  refine (if_neg (c := _ = true) (t := _) ?_).trans ?_
  · rw [Bool.not_eq_true]
    refine Eq.trans (congrArg (fun l : List Str => (l.length != 2 || l.eraseDups.length != l.length)) hn) ?_
    simp [List.eraseDups_cons, hne]
  refine (if_neg (by rw [Bool.not_eq_true]; exact hf)).trans ?_
  refine (if_neg (by rw [Bool.not_eq_true]; exact hc)).trans ?_
  exact congrArg (fun l => pure (some l)) hn
/-- two names at once from a pair that is written out -/
theorem ex_assign2x {C : Cx} {E : Value → Shared → Prop} {ρ : Loc} {σ : Sto} {pos : Pos} {QF : AF → Loc → Sto → Prop} {q : Str} {sc : Scope} {f : Addr} {cd : Value} {cl : List (Str × Addr)} {x y : Str} {px py tp tp2 : Pos} {k k2 : Nat} {v1 v2 : Expr} (hh : C.A.handled = none)
    (hk : sc.kind = .function) (hx : sc.names.lookup x = some .local) (hy : sc.names.lookup y = some .local) (hl : (py.line == px.line) = true) (hne : (y == x) = false)
    (hst : ([v1, v2].any fun | .Starred .. => true | _ => false) = false) (hf : [v1, v2].all (foldedForSure 8) = false) (hc : [v1, v2].all (constantsAlone 8) = false)
    (h : AW RV C E (eval (.Tuple [v1, v2] k2 tp2) (envX q sc C.L f cd cl)) (fun a ρ₁ σ₁ => ATup2 a σ₁ fun u v => ASt C E (envX q sc C.L f cd cl) y v (fun ρ₂ σ₂ => ASt C E (envX q sc C.L f cd cl) x u (QF .next) ρ₂ σ₂) ρ₁ σ₁) ρ σ)
    (hs0 : swapsWithSole [.Tuple [.Name x px, .Name y py] k tp] (.Tuple [v1, v2] k2 tp2) pos.line (envX q sc C.L f cd cl) = pure false) :
    AW RF C E (exec (.Assign [.Tuple [.Name x px, .Name y py] k tp] (.Tuple [v1, v2] k2 tp2) pos) (envX q sc C.L f cd cl)) QF ρ σ :=
  ex_assign2s hh h hs0 (sws2 hk hx hy hl hne hst hf hc)
theorem t_str_digit {C : Cx} {E : Value → Shared → Prop} {ρ : Loc} {σ : Sto} {Q : AV → Loc → Sto → Prop} {a : Int} (h0 : 0 ≤ a) (h1 : a < 10) (h : Q (.str (tx [48 + a.toNat])) ρ σ) : ACall C E (.type "str") [.int a] Q ρ σ := by
  intro vs hv s hs
  obtain ⟨_, rfl, t, rfl⟩ := RVs.one' (as := []) hv
  have e : Str.ofString (toString a) = tx [48 + a.toNat] := by
    have : a = 0 ∨ a = 1 ∨ a = 2 ∨ a = 3 ∨ a = 4 ∨ a = 5 ∨ a = 6 ∨ a = 7 ∨ a = 8 ∨ a = 9 := by omega
    rcases this with rfl | rfl | rfl | rfl | rfl | rfl | rfl | rfl | rfl | rfl <;> decide
  refine PySem.P.str_of_int (Nat.lt_of_le_of_lt (Nat.log2_le_self _) (by omega)) ?_
  rw [e]
  exact ⟨.str _, _, _, ⟨_, rfl⟩, hs.toks _, h⟩
section
variable {q : Str} {sc : Scope} {L f : Addr} {cd : Value} {cl : List (Str × Addr)} {y : Str} {py pos spos : Pos} {elt : Expr} {gs : List Comprehension} {scope : Scope}
theorem sw_local (hk : sc.kind = .function) (hx : sc.names.lookup y = some .local) (hl : (py.line == pos.line) = true) (hs : (scope.names.any fun (n, k) => n == y && (k == .local || k == .cell)) = false) :
    swapsWith (.ListComp elt gs scope pos) (some (.Name y py)) spos.line (envX q sc L f cd cl) = pure true := by
  have hb : (envX q sc L f cd cl).blockKind = .function := by
    unfold Env.blockKind
    rw [show (envX q sc L f cd cl).scope.kind = .function from hk]; rfl
  have e1 : (envX q sc L f cd cl).kindOf y = some .local := hx
  show pure _ = pure true
  congr 1
  rw [hb, e1, show (Expr.ListComp elt gs scope pos).pos = pos from rfl, hl, hs]; rfl
theorem sw_cell (hx : sc.names.lookup y = some .cell) :
    swapsWith (.ListComp elt gs scope pos) (some (.Name y py)) spos.line (envX q sc L f cd cl) = pure false := by
  have e1 : (envX q sc L f cd cl).kindOf y = some .cell := hx
  show pure _ = pure false
  congr 1
  rw [e1]
  simp
end
section
variable {C : Cx} {E : Value → Shared → Prop} {ρ : Loc} {σ : Sto} {pos : Pos} {elt target iter : Expr} {ifs : List Expr} {scope : Scope} {I D : Addr} {q : Str} {sc : Scope} {f : Addr} {cd : Value} {clf cl : List (Str × Addr)} {y : Str} {py spos : Pos} {QF : AF → Loc → Sto → Prop}
/-- behind the loop: the comprehension's own names go -/
def Gone (c : Addr) (Q : Loc → Sto → Prop) : Loc → Sto → Prop := fun ρ₄ σ₄ => ∃ ρ₅ σ₅, Pick (c, .ns ρ₅) σ₄ σ₅ ∧ Q ρ₄ σ₅
theorem gone {c : Addr} {Q : Loc → Sto → Prop} {ρ₂ : Loc} {σ' : Sto} (hp : Pick (c, .ns ρ₂) σ σ') (h : Q ρ σ') : Gone c Q ρ σ := ⟨_, _, hp, h⟩
theorem cdone {c D : Addr} {Q : AV → Loc → Sto → Prop} {ρ₂ : Loc} {σ' : Sto} (hp : Pick (c, .ns ρ₂) σ σ') (h : Q (.ref D) ρ σ') : CDone c D Q ρ σ := ⟨_, _, hp, h⟩
theorem ex_compL (hk : sc.kind = .function) (hx : sc.names.lookup y = some .local) (hl : (py.line == pos.line) = true) (hs : (scope.names.any fun (n, k) => n == y && (k == .local || k == .cell)) = false)
    (hclos : closureFor scope (envX q sc C.L f cd clf) = Pure.pure cl) (hcell : ∀ y ∈ scope.names, y.2 ≠ .cell) (hkind : scope.kind = .function) (hnames : ∀ y ∈ scope.names, y.2 = .local → scope.names.lookup y.1 = some .local)
    (h : AW RV C E (eval iter (envX q sc C.L f cd clf)) (fun a ρ₁ σ₁ => AIt C E a (fun I ρ₂ σ₂ => ∃ ao, (I, ao) ∈ σ₂ ∧ NxS C I ao ∧ ∀ D c, AComp C elt target iter ifs scope pos I D (compEnvC scope cl c (envX q sc C.L f cd clf))
      (fun ρ₃ σ₃ => ASt C E (envX q sc C.L f cd clf) y (.ref D) (Gone c (QF .next)) ρ₃ σ₃) ρ₂ ((c, .ns []) :: (D, .list []) :: σ₂)) ρ₁ σ₁) ρ σ)
    (hfs : ∀ x, foldedSetIterable iter (envX q sc C.L f cd clf) x = Pure.pure x) :
    AW RF C E (exec (.Assign [.Name y py] (.ListComp elt [⟨target, iter, ifs, 0⟩] scope pos) spos) (envX q sc C.L f cd clf)) QF ρ σ :=
  ex_assign_comp (sw_local hk hx hl hs) hclos hcell hkind hnames h hfs
theorem ex_compC (hx : sc.names.lookup y = some .cell) (h : AW RV C E (eval (.ListComp elt [⟨target, iter, ifs, 0⟩] scope pos) (envX q sc C.L f cd clf)) (fun a ρ₁ σ₁ => ASt C E (envX q sc C.L f cd clf) y a (QF .next) ρ₁ σ₁) ρ σ) :
    AW RF C E (exec (.Assign [.Name y py] (.ListComp elt [⟨target, iter, ifs, 0⟩] scope pos) spos) (envX q sc C.L f cd clf)) QF ρ σ := ex_assign h (sw_cell hx)
end
end Mine
namespace Mine
open PySem PySem.W PySem.Spec PySem.Calls PyProof.Rows
open PySem.Builtin.Re
/-! facts of the top, by reckoning -/
def dEs (K : Frag) (a : Addr) : Array DictEntry := match K.lookup a with
  | some ⟨_, _, .dict es _, _⟩ => es
  | _ => #[]
def dSz (K : Frag) (a : Addr) : Nat := match K.lookup a with
  | some ⟨_, _, .dict _ n, _⟩ => n
  | _ => 0
def pf (K : Frag) (a : Addr) (i : Nat) : Value := match K.lookup a with
  | some ⟨_, _, .fields fs, _⟩ => fs.getD i .none
  | _ => .none
def pca (K : Frag) (a : Addr) : Addr := match pf K a 5 with
  | .ref c => c
  | _ => 0
def sIt (K : Frag) (a : Addr) : Array Value := match K.lookup a with
  | some ⟨_, _, .seq xs _, _⟩ => xs
  | _ => #[]
def sSz (K : Frag) (a : Addr) : Nat := match K.lookup a with
  | some ⟨_, _, .seq _ n, _⟩ => n
  | _ => 0
theorem zn_of {K : Frag} {P : Params} {n : String} {da : Addr} {ks : List (List Nat)} (h1 : nsIn K mainGlobals (Str.ofString n) = some (some (.ref da))) (h2 : (da == sysModules) = false)
    (h3 : K.lookup da = some ⟨.type "dict", none, .dict (dEs K da) (dSz K da), #[]⟩) (h4 : KeysLit P (dEs K da).toList) (h5 : (dEs K da).toList.map (fun e => keyOf e.key) = ks.map fun l => some (tx l)) : Zn K P n da ks :=
  ⟨h1, h2, _, _, h3, h4, h5⟩
theorem pat_of {K : Frag} {n : String} {pa : Addr} {code : List Nat} {groups : Nat} (h1 : nsIn K mainGlobals (Str.ofString n) = some (some (.ref pa)))
    (h2 : K.lookup pa = some { cls := .type "re.Pattern", data := .fields #[pf K pa 0, pf K pa 1, .int groups 0, pf K pa 3, pf K pa 4, .ref (pca K pa), .int 0 0] })
    (h3 : K.lookup (pca K pa) = some { cls := .type "tuple", data := .seq (sIt K (pca K pa)) (sSz K (pca K pa)) })
    (h4 : ((sIt K (pca K pa)).map reRawOf).map (·.toNat) = code.toArray) : Pat K n pa code groups :=
  ⟨h1, _, _, _, _, _, _, _, h2, h3, h4⟩
end Mine
namespace Mine
open PySem PySem.W PySem.Spec PySem.Calls PyProof.Rows
/-! mappings whose keys are texts -/
inductive DRel : List (List Nat × AV) → List (Str × Value) → Prop
  | nil : DRel [] []
  | cons {k a v kvs pv} : RV a v → DRel kvs pv → DRel ((k, a) :: kvs) ((tx k, v) :: pv)
theorem DRel.len {kvs pv} (h : DRel kvs pv) : pv.length = kvs.length := by
  induction h with
  | nil => rfl
  | cons _ _ ih => simp [ih]
def lkA (kvs : List (List Nat × AV)) (k : List Nat) : Option AV := (kvs.find? fun kv => kv.1 = k).map (·.2)
def putA (kvs : List (List Nat × AV)) (k : List Nat) (v : AV) : List (List Nat × AV) :=
  if kvs.any (fun kv => kv.1 = k) then kvs.map (fun kv => if kv.1 = k then (kv.1, v) else kv) else kvs ++ [(k, v)]
def ORel : Option AV → Option Value → Prop
  | none, none => True
  | some a, some v => RV a v
  | _, _ => False
theorem tx_dec (a b : List Nat) : decide (tx a = tx b) = decide (a = b) := by
  by_cases h : a = b
  · subst h; simp
  · rw [decide_eq_false h, decide_eq_false (fun e => h (tx_inj.mp e))]
theorem DRel.lk {kvs pv} (h : DRel kvs pv) (k : List Nat) : ORel (lkA kvs k) (valueAt pv (tx k)) := by
  induction h with
  | nil => exact trivial
  | @cons k' a v kvs pv rv _ ih =>
    unfold lkA valueAt
    rw [List.find?_cons, List.find?_cons]
    by_cases e : k' = k
    · subst e; simpa [ORel] using rv
    · have e' : ¬ tx k' = tx k := fun x => e (tx_inj.mp x)
      simp only [decide_eq_false e, decide_eq_false e']
      exact ih
theorem DRel.any {kvs pv} (h : DRel kvs pv) (k : List Nat) : (pv.any fun kv => kv.1 = tx k) = kvs.any fun kv => kv.1 = k := by
  induction h with
  | nil => rfl
  | cons rv _ ih => simp only [List.any_cons, tx_dec, ih]
theorem DRel.mapPut {kvs pv} (h : DRel kvs pv) {k : List Nat} {a : AV} {v : Value} (rv : RV a v) : DRel (kvs.map fun kv => if kv.1 = k then (kv.1, a) else kv) (pv.map fun kv => if kv.1 = tx k then (kv.1, v) else kv) := by
  induction h with
  | nil => exact .nil
  | @cons k' a' v' kvs pv rv' _ ih =>
    rw [List.map_cons, List.map_cons]
    by_cases e : k' = k
    · subst e; simp only [if_true]; exact .cons rv ih
    · have e' : ¬ tx k' = tx k := fun x => e (tx_inj.mp x)
      simp only [if_neg e, if_neg e']; exact .cons rv' ih
theorem DRel.app {kvs pv k a v} (h : DRel kvs pv) (rv : RV a v) : DRel (kvs ++ [(k, a)]) (pv ++ [(tx k, v)]) := by
  induction h with
  | nil => exact .cons rv .nil
  | cons rv' _ ih => exact .cons rv' ih
theorem DRel.put {kvs pv} (h : DRel kvs pv) {k : List Nat} {a : AV} {v : Value} (rv : RV a v) : DRel (putA kvs k a) (stored pv (tx k) v) := by
  unfold putA stored
  rw [h.any k]
  split
  · exact h.mapPut rv
  · exact h.app rv
theorem putA_len (kvs : List (List Nat × AV)) (k : List Nat) (v : AV) : (putA kvs k v).length ≤ kvs.length + 1 := by
  unfold putA
  split <;> simp
theorem lkA_put (kvs : List (List Nat × AV)) (k : List Nat) (v : AV) (j : List Nat) : lkA (putA kvs k v) j = if k = j then some v else lkA kvs j := by
  unfold putA
  split
  · rename_i h
    induction kvs with
    | nil => simp at h
    | cons kv r ih =>
      obtain ⟨k', v'⟩ := kv
      rw [List.map_cons]
      by_cases e : k' = k
      · subst e
        simp only [if_true]
        unfold lkA
        rw [List.find?_cons, List.find?_cons]
        by_cases ej : k' = j
        · subst ej; simp
        · simp only [decide_eq_false ej, if_neg ej]
          by_cases hr : (r.any fun kv => kv.1 = k') = true
          · have := ih hr
            rw [if_neg ej] at this
            exact this
          · have hm : (r.map fun kv => if kv.1 = k' then (kv.1, v) else kv) = r := by
              have : ∀ kv ∈ r, kv.1 ≠ k' := fun kv hkv e => hr (List.any_eq_true.mpr ⟨kv, hkv, by simp [e]⟩)
              conv => rhs; rw [← List.map_id r]
              exact List.map_congr_left fun kv hkv => by simp [this kv hkv]
            rw [hm]
      · simp only [if_neg e]
        have hr : (r.any fun kv => kv.1 = k) = true := by simpa [e] using h
        have := ih hr
        unfold lkA at this ⊢
        rw [List.find?_cons, List.find?_cons]
        by_cases ej : k' = j
        · subst ej
          have : ¬ k = k' := fun x => e x.symm
          simp [this]
        · simp only [decide_eq_false ej]
          exact this
  · rename_i h
    unfold lkA
    rw [List.find?_append]
    by_cases e : k = j
    · subst e
      have : kvs.find? (fun kv => decide (kv.1 = k)) = none := by
        rw [List.find?_eq_none]
        intro kv hkv hd
        exact h (List.any_eq_true.mpr ⟨kv, hkv, hd⟩)
      simp [this]
    · simp [e]
abbrev dictO (prog : Program) (w : World) (kvs : List (List Nat × AV)) : AO := .pred fun o => ∃ pv, DRel kvs pv ∧ o.IsDictOf (strKind prog w) pv
section
variable {C : Cx} {E : Value → Shared → Prop} {ρ : Loc} {σ σ' : Sto} {Q : AV → Loc → Sto → Prop} {s : Shared} {d : Addr} {kvs : List (List Nat × AV)} {k : List Nat}
theorem Rel.dictOf (hs : Rel C ρ σ s) (hm : (d, dictO C.prog C.w kvs) ∈ σ) : ∃ pv, DRel kvs pv ∧ s.heap.DictOf (strKind C.prog C.w) d pv := by
  obtain ⟨o, e, _, _, pv, hr, ho⟩ := hs.led _ hm
  exact ⟨pv, hr, Heap.dictOf_iff.mpr ⟨o, e, ho⟩⟩
theorem m_get {pl : Sem Bool} {P : Value → List AV → Loc → Sto → Prop} (hm : (d, dictO C.prog C.w kvs) ∈ σ) (h : P (.builtin "dict.get") [.ref d] ρ σ) : AMeth C E (.ref d) (Str.ofString "get") pl P ρ σ := by
  rintro _ rfl s hs
  obtain ⟨pv, hr, hD⟩ := hs.dictOf hm
  exact getMethod_builtin hD.typeIs PySem.F.plainAttrs_dict PySem.F.slot_dict_get PySem.F.type_dict_get hD.mapOf.noDict ⟨[.ref d], ρ, σ, .one rfl, hs, h⟩
theorem b_get (hm : (d, dictO C.prog C.w kvs) ∈ σ) (lo : (d == sysModules) = false) (h : Q ((lkA kvs k).getD .none) ρ σ) : ACall C E (.builtin "dict.get") [.ref d, .str (tx k)] Q ρ σ := by
  intro vs hv s hs
  obtain ⟨_, _, rfl, rfl, t, rfl⟩ := RVs.two' hv
  obtain ⟨pv, hr, hD⟩ := hs.dictOf hm
  refine call_meetsIn PySem.F.slot_dict_get hD.typeIs PySem.F.entry_dict_get (PySem.F.args_dict_get_2 _ _) (meets_dict_get (strKind C.prog C.w) d (strKind_is C.prog C.w (tx k) t) lo) ⟨_, hD.mapOf, ?_⟩
  have := hr.lk k
  refine ⟨(lkA kvs k).getD .none, ρ, σ, ?_, hs.toks _, h⟩
  cases h1 : lkA kvs k <;> cases h2 : valueAt pv (tx k) <;> rw [h1, h2] at this
  · rfl
  · exact this.elim
  · exact this.elim
  · exact this
theorem c_in_dict (hm : (d, dictO C.prog C.w kvs) ∈ σ) (lo : (d == sysModules) = false) (h : Q (.bool (lkA kvs k).isSome) ρ σ) : Cmp2 C E .In (.str (tx k)) (.ref d) Q ρ σ := by
  rintro _ _ ⟨t, rfl⟩ rfl s hs
  obtain ⟨pv, hr, hD⟩ := hs.dictOf hm
  refine wpAny_in_of (strKind_is C.prog C.w (tx k) t) lo hD.mapOf ⟨.bool _, ρ, σ, ?_, hs.toks _, h⟩
  have := hr.lk k
  cases h1 : lkA kvs k <;> cases h2 : valueAt pv (tx k) <;> rw [h1, h2] at this
  · rfl
  · exact this.elim
  · exact this.elim
  · rfl
theorem c_notin_dict (hm : (d, dictO C.prog C.w kvs) ∈ σ) (lo : (d == sysModules) = false) (h : Q (.bool (!(lkA kvs k).isSome)) ρ σ) : Cmp2 C E .NotIn (.str (tx k)) (.ref d) Q ρ σ := by
  rintro _ _ ⟨t, rfl⟩ rfl s hs
  obtain ⟨pv, hr, hD⟩ := hs.dictOf hm
  refine wpAny_notIn_of (strKind_is C.prog C.w (tx k) t) lo hD.mapOf ⟨.bool _, ρ, σ, ?_, hs.toks _, h⟩
  have := hr.lk k
  cases h1 : lkA kvs k <;> cases h2 : valueAt pv (tx k) <;> rw [h1, h2] at this
  · rfl
  · exact this.elim
  · exact this.elim
  · rfl
theorem s_dict {value slice : Expr} {v : AV} (hm : (d, dictO C.prog C.w kvs) ∈ σ) (hk : lkA kvs k = some v) (h : Q v ρ σ)
    (hsl : ∀ u, subscripted slice false (.ref d) (.str (tx k) u) = operate [.ref d, .str (tx k) u] (getItem (.ref d) (.str (tx k) u))) : A2 C E (subscriptTail value slice) (.ref d) (.str (tx k)) Q ρ σ := by
  rintro _ _ rfl ⟨t, rfl⟩ s hs
  obtain ⟨pv, hr, hD⟩ := hs.dictOf hm
  have := hr.lk k
  rw [hk] at this
  cases h2 : valueAt pv (tx k) with
  | none => rw [h2] at this; exact this.elim
  | some vv =>
    rw [h2] at this
    exact tail_any (T := "dict") hD.typeIs slot_dict_getitem.lookup (wpAny_getItem_of (strKind_is C.prog C.w (tx k) t) hD.mapOf h2 ⟨v, ρ, σ, this, hs.toks _, h⟩) (hsl _)
/-- storing an item -/
def ASI (C : Cx) (E : Value → Shared → Prop) (o i a : AV) (Q : Loc → Sto → Prop) (ρ : Loc) (σ : Sto) : Prop :=
  ∀ ov iv v, RV o ov → RV i iv → RV a v → AW (Eq (α := Unit)) C E (setItem ov iv v) (fun _ => Q) ρ σ
theorem si_dict {a : AV} {Q : Loc → Sto → Prop} (hm : Pick (d, dictO C.prog C.w kvs) σ σ') (hz : kvs.length ≤ sizeLine) (h : Q ρ ((d, dictO C.prog C.w (putA kvs k a)) :: σ')) : ASI C E (.ref d) (.str (tx k)) a Q ρ σ := by
  rintro _ _ v rfl ⟨t, rfl⟩ rv s hs
  have hs := hs.perm hm
  obtain ⟨pv, hr, hD⟩ := hs.dictOf (.head _)
  refine wpAny_setItem_pairs (strKind_is C.prog C.w (tx k) t) hD (fun h' hD' hsb => ?_) (by rw [hr.len]; exact hz)
  obtain ⟨o', e', ho'⟩ := Heap.dictOf_iff.mp hD'
  exact ⟨(), ρ, _, rfl, hs.updP hsb e' (ao' := dictO C.prog C.w (putA kvs k a)) ⟨_, hr.put rv, ho'⟩ _, h⟩
theorem ex_setitem {env : Env} {o i value : Expr} {pos' pos : Pos} {QF : AF → Loc → Sto → Prop}
    (h : AW RV C E (eval value env) (fun a ρ₁ σ₁ => AW RV C E (eval o env) (fun ov ρ₂ σ₂ => AW RV C E (eval i env) (fun iv ρ₃ σ₃ => ASI C E ov iv a (QF .next) ρ₃ σ₃) ρ₂ σ₂) ρ₁ σ₁) ρ σ)
    (hsw : swapsWith value (some (.Subscript o i pos')) pos.line env = pure false) : AW RF C E (exec (.Assign [.Subscript o i pos'] value pos) env) QF ρ σ :=
  fun _ hs => wpAny_Assign_Subscript (h.lift1 hs fun v _ _ _ _ rv hs₁ h₁ => h₁.lift1 hs₁ fun ov _ _ _ _ ro hs₂ h₂ => h₂.lift1 hs₂ fun iv _ _ _ _ ri hs₃ h₃ => (h₃ ov iv v ro ri rv).lift1 hs₃ fun _ _ _ _ _ _ hs₄ h₄ => ⟨.next, _, _, rfl, hs₄, h₄⟩) hsw
theorem Rel.newLow (hs : Rel C ρ σ s) (G : C.Gl) : (s.heap.objs.size == sysModules) = false := by
  obtain ⟨m, F, _⟩ := hs.fr
  exact F.notModules (modules_low G.T.nolimit)
theorem aw_DictNil {env : Env} {pos : Pos} (G : C.Gl) (h : ∀ r, (r == sysModules) = false → Q (.ref r) ρ ((r, dictO C.prog C.w []) :: σ)) : AW RV C E (eval (.Dict [] [] pos) env) Q ρ σ := fun s hs =>
  wpAny_Dict_empty ⟨.ref _, ρ, _, rfl, hs.push (ao := dictO C.prog C.w []) ⟨[], .nil, #[], 0, ⟨rfl, rfl, rfl⟩, rfl, fun _ he => by simp at he, Pairs.nil, List.nodup_nil⟩ rfl s.toks, h _ (hs.newLow G)⟩
/-- the pairs of a mapping that is written out -/
inductive RPs : List (List Nat × AV) → List (Value × Value) → Prop
  | nil : RPs [] []
  | cons {k a t v kvs pv} : RV a v → RPs kvs pv → RPs ((k, a) :: kvs) ((.str (tx k) t, v) :: pv)
theorem RPs.len {kvs pv} (h : RPs kvs pv) : pv.length = kvs.length := by
  induction h with
  | nil => rfl
  | cons _ _ ih => simp [ih]
def putAll (kvs : List (List Nat × AV)) : List (List Nat × AV) → List (List Nat × AV)
  | [] => kvs
  | (k, a) :: r => putAll (putA kvs k a) r
theorem storeAll_w {σ : Sto} {new : List (List Nat × AV)} {vs : List (Value × Value)} (hn : RPs new vs) : ∀ {kvs : List (List Nat × AV)} {s : Shared}, kvs.length + new.length ≤ sizeLine → Rel C ρ ((d, dictO C.prog C.w kvs) :: σ) s → ∀ {P : Shared → Prop},
    (∀ s', Rel C ρ ((d, dictO C.prog C.w (putAll kvs new)) :: σ) s' → P s') → wpAny (model C.prog C.w) C.A (storeAll d vs) (fun _ s' => P s') E s := by
  induction hn with
  | nil => intro kvs s _ hs P hP; exact wpAny_pure (hP _ hs)
  | @cons k a t v new pv rv _ ih =>
    intro kvs s hz hs P hP
    obtain ⟨pv', hr, hD⟩ := hs.dictOf (.head _)
    unfold storeAll
    rw [List.forIn_cons]
    refine wpAny_bind (wpAny_bind (wpAny_dictSet_pairs (strKind_is C.prog C.w (tx k) t) hD (fun h' hD' hsb => ?_) (by rw [hr.len]; simp at hz; omega)))
    obtain ⟨o', e', ho'⟩ := Heap.dictOf_iff.mp hD'
    refine wpAny_pure ?_
    have hs' := hs.updP hsb e' (ao' := dictO C.prog C.w (putA kvs k a)) ⟨_, hr.put rv, ho'⟩ (s.toks + 1)
    exact ih (by have := putA_len kvs k a; simp at hz; omega) hs' hP
theorem aw_Dict {env : Env} {pos : Pos} {keys : List (Option Expr)} {values : List Expr} (G : C.Gl) (hall : keys.all (·.isSome) = true) (hl : keys.length = values.length) (h0 : keys ≠ []) (hlen : keys.length ≤ 15)
    (h : ∀ r, (r == sysModules) = false → AW RPs C E (evalPairs (pairTrees keys values env pos)) (fun new ρ₁ σ₁ => ∃ σ₂, new.length ≤ 1000 ∧ Pick (r, dictO C.prog C.w []) σ₁ σ₂ ∧ Q (.ref r) ρ₁ ((r, dictO C.prog C.w (putAll [] new)) :: σ₂)) ρ ((r, dictO C.prog C.w []) :: σ)) :
    AW RV C E (eval (.Dict keys values pos) env) Q ρ σ := by
  intro s hs
  refine wpAny_Dict_any hall hl h0 hlen ?_
  have hs₁ := hs.push (o := { cls := .type "dict", data := .dict #[] }) (ao := dictO C.prog C.w []) ⟨[], .nil, #[], 0, ⟨rfl, rfl, rfl⟩, rfl, fun _ he => by simp at he, Pairs.nil, List.nodup_nil⟩ rfl s.toks
  refine (h _ (hs.newLow G)).lift1 hs₁ fun vs new ρ₁ σ₁ s₂ hr hs₂ ⟨σ₂, hz, hp, hq⟩ => ?_
  exact storeAll_w hr (by rw [sizeLine_eq]; simp; omega) (hs₂.perm hp) fun s' hs' => ⟨.ref _, ρ₁, _, rfl, hs', hq⟩
theorem pt_nil {env : Env} {pos : Pos} {QP : List (List Nat × AV) → Loc → Sto → Prop} (h : QP [] ρ σ) : AW RPs C E (evalPairs (pairTrees [] [] env pos)) QP ρ σ := fun _ hs => pairTrees_nil_walk ⟨[], ρ, σ, .nil, hs, h⟩
theorem pt_cons {env : Env} {pos : Pos} {ke ve : Expr} {ks : List (Option Expr)} {vs : List Expr} {QP : List (List Nat × AV) → Loc → Sto → Prop}
    (h : AW RV C E (eval ke env) (fun a ρ₁ σ₁ => ∃ k, a = .str (tx k) ∧ AW RV C E (eval ve env) (fun b ρ₂ σ₂ => AW RPs C E (evalPairs (pairTrees ks vs env pos)) (fun r ρ₃ σ₃ => QP ((k, b) :: r) ρ₃ σ₃) ρ₂ σ₂) ρ₁ σ₁) ρ σ) :
    AW RPs C E (evalPairs (pairTrees (some ke :: ks) (ve :: vs) env pos)) QP ρ σ :=
  fun _ hs => pairTrees_cons_walk (h.lift1 hs fun kv a ρ₁ σ₁ s₁ ra hs₁ ⟨k, e, h₁⟩ => h₁.lift1 hs₁ fun vv b ρ₂ σ₂ s₂ rb hs₂ h₂ => h₂.lift1 hs₂ fun pv r ρ₃ σ₃ s₃ rr hs₃ h₃ => by
    subst e
    obtain ⟨t, rfl⟩ := ra
    exact ⟨_, ρ₃, σ₃, .cons rb rr, hs₃, h₃⟩)
/-! sum, chr, the empty text in a text -/
theorem b_sum {a : Addr} {xs : List AV} {ns : List Int} (hh : C.A.handled = none) (hm : (a, AO.list xs) ∈ σ) (hx : xs = ns.map .int) (h : Q (.int ns.sum) ρ σ) : ACall C E (.builtin "sum") [.ref a] Q ρ σ := by
  intro vs hv s hs
  obtain ⟨_, rfl, rfl⟩ := RVs.one' (as := []) hv
  obtain ⟨m, news, F, hl, N, hmm⟩ := hs.frame
  obtain ⟨us, ru, hL⟩ := hs.isList hm
  have hI : IntsAre us ns := by
    subst hx
    clear hm hL h
    induction ns generalizing us with
    | nil => cases ru; exact .nil
    | cons n ns ih' =>
      cases ru with
      | cons r rr => obtain ⟨t, rfl⟩ := r; exact .cons _ t (ih' _ rr)
  exact LSm.sum_ints F N hh hL hI fun h' tk t' F' N' => ⟨.int _, ρ, σ, ⟨_, rfl⟩, hs.back hl F' N' hmm _, h⟩
theorem b_chr {i : Int} (h0 : 0 ≤ i) (h1 : i ≤ 1114111) (h : Q (.str (tx [i.toNat])) ρ σ) : ACall C E (.builtin "chr") [.int i] Q ρ σ := by
  intro vs hv s hs
  obtain ⟨_, rfl, t, rfl⟩ := RVs.one' (as := []) hv
  exact chr_of_range h0 h1 ⟨.str _, ρ, σ, ⟨_, rfl⟩, hs.toks _, h⟩
theorem c_in_empty {x : Str} (h : Q (.bool true) ρ σ) : Cmp2 C E .In (.str (tx [])) (.str x) Q ρ σ := by
  rintro _ _ ⟨t, rfl⟩ ⟨u, rfl⟩ s hs
  refine in_str ⟨.bool _, ρ, σ, ?_, hs, h⟩
  refine congrArg Value.bool ?_
  refine (StrLaws.found_iff x (tx [])).mpr ⟨0, by simp, ?_⟩
  rw [StrLaws.subAt_eq]
  exact beq_self_eq_true _
end
/-! two loops in one comprehension -/
theorem compTurn_inner (elt t0 i0 t1 i1 : Expr) (scope : Scope) (pos : Pos) (it acc : Value) (env : Env) :
    compTurn (.ListComp elt [⟨t0, i0, [], 0⟩, ⟨t1, i1, [], 0⟩] scope pos) 1 it acc env = (standAt i1.pos >>= fun _ => pyNext it >>= fun r => match r with
      | none => pure (.done .next)
      | some v => letOwnedTupleGo t1 it v >>= fun _ => assign t1 env v >>= fun _ =>
        (eval elt env >>= fun x => call (.builtin "list.append") [acc, x] >>= fun _ => pure ()) >>= fun _ =>
          again (.compLoop (.ListComp elt [⟨t0, i0, [], 0⟩, ⟨t1, i1, [], 0⟩] scope pos) 1 it acc env)) := by rfl
theorem compTurn_outer (elt t0 i0 t1 i1 : Expr) (scope : Scope) (pos : Pos) (it acc : Value) (env : Env) :
    compTurn (.ListComp elt [⟨t0, i0, [], 0⟩, ⟨t1, i1, [], 0⟩] scope pos) 0 it acc env = (standAt i0.pos >>= fun _ => pyNext it >>= fun r => match r with
      | none => pure (.done .next)
      | some v => letOwnedTupleGo t0 it v >>= fun _ => assign t0 env v >>= fun _ =>
        eval i1 env >>= fun x => standAt i1.pos >>= fun _ => foldedSetIterable i1 env x >>= fun x => holding [x] (pyIter x) >>= fun it' => runOwn (.compStart (.ListComp elt [⟨t0, i0, [], 0⟩, ⟨t1, i1, [], 0⟩] scope pos) 1 it' acc env) env >>= fun _ =>
          again (.compLoop (.ListComp elt [⟨t0, i0, [], 0⟩, ⟨t1, i1, [], 0⟩] scope pos) 0 it acc env)) := by rfl
def ACompE (C : Cx) (e : Expr) (depth : Nat) (I D : Addr) (cenv : Env) (QC : Loc → Sto → Prop) (ρ : Loc) (σ : Sto) : Prop :=
  ∀ s (RR : Result → Shared → Prop), Rel C ρ σ s → (∀ ρ' σ' s', Rel C ρ' σ' s' → QC ρ' σ' → RR (.ok .next) s') → codeAny (model C.prog C.w) C.A (.compLoop e depth (.ref I) (.ref D) cenv) RR s
section
variable {C : Cx} {ρ ρ' : Loc} {σ σ' : Sto} {cenv : Env} {pos : Pos} {elt t0 i0 t1 i1 : Expr} {scope : Scope} {I D : Addr} {QC : Loc → Sto → Prop} {e : Expr} {depth : Nat} {ao ao' : AO} {v : AV}
theorem ACompE.to (h : ACompE C e depth I D cenv QC ρ' σ') (hs : SubS σ' σ) (hl : LocSub ρ' ρ) : ACompE C e depth I D cenv QC ρ σ := fun s RR hr k => h s RR ((hr.subS hs).loc hl.sub) k
abbrev LC2 (elt t0 i0 t1 i1 : Expr) (scope : Scope) (pos : Pos) : Expr := .ListComp elt [⟨t0, i0, [], 0⟩, ⟨t1, i1, [], 0⟩] scope pos
theorem ci_item (hσ : Pick (I, ao) σ σ') (nx : NxI C I ao σ' v ao')
    (h : ∀ E', AAs C E' cenv t1 I v (fun ρ₁ σ₁ => AW RV C E' (eval elt cenv) (fun y ρ₂ σ₂ => ∃ acc σ₃, Pick (D, .list acc) σ₂ σ₃ ∧ acc.length ≤ sizeLine ∧ ACompE C (LC2 elt t0 i0 t1 i1 scope pos) 1 I D cenv QC ρ₂ ((D, .list (acc ++ [y])) :: σ₃)) ρ₁ σ₁) ρ ((I, ao') :: σ')) :
    ACompE C (LC2 elt t0 i0 t1 i1 scope pos) 1 I D cenv QC ρ σ := by
  intro s RR hs k
  have hs := hs.perm hσ
  refine codeAny_loop' rfl (fun _ s' => s' = s) (fun n s' e => ?_) 0 rfl
  subst e
  show wpAny _ C.A ((compTurn (LC2 elt t0 i0 t1 i1 scope pos) 1 (.ref I) (.ref D) cenv).onRaise (fun x => do noteFrame x cenv; theTreesLotGoes x)) _ _ s'
  refine wpAny_noted ?_
  rw [compTurn_inner]
  refine wpAny_bind (wpAny_standAt (wpAny_bind (nx ρ s' _ _ hs fun vv s₁ rv hs₁ => ?_)))
  generalize notedBy _ _ _ _ = E'
  have h₁ := h E' vv rv s₁ hs₁
  have fin : ∀ s₅, codeAny (model C.prog C.w) C.A (.compLoop (LC2 elt t0 i0 t1 i1 scope pos) 1 (.ref I) (.ref D) cenv) RR s₅ →
      PFc (model C.prog C.w) C.A RR (.compLoop (LC2 elt t0 i0 t1 i1 scope pos) 1 (.ref I) (.ref D) cenv) n s' (Fin.again (.compLoop (LC2 elt t0 i0 t1 i1 scope pos) 1 (.ref I) (.ref D) cenv)) s₅ := fun s₅ x => .inr ⟨rfl, x⟩
  have h₂ := wpAny_bind (Q := PFc (model C.prog C.w) C.A RR (.compLoop (LC2 elt t0 i0 t1 i1 scope pos) 1 (.ref I) (.ref D) cenv) n s') (f := fun _ =>
        (eval elt cenv >>= fun x => call (.builtin "list.append") [.ref D, x] >>= fun _ => pure ()) >>= fun _ =>
          again (.compLoop (LC2 elt t0 i0 t1 i1 scope pos) 1 (.ref I) (.ref D) cenv)) (wpAny_mono h₁ (fun _ s₂ ⟨_, ρ₂, σ₂, _, hs₂, q⟩ => wpAny_bind (wpAny_bind (q.lift1 hs₂ fun y a ρ₄ σ₄ s₄ ry hs₄ h₄ => by
        obtain ⟨acc, σ₅, hp, hl, h₅⟩ := h₄
        refine wpAny_bind ((b_append (C := C) (E := E') (ρ := ρ₄) (Q := fun _ ρ' σ' => ACompE C (LC2 elt t0 i0 t1 i1 scope pos) 1 I D cenv QC ρ' σ') hp hl h₅ [.ref D, y] (.cons rfl (.one ry))).lift1 hs₄ fun _ _ ρ₆ σ₆ s₆ _ hs₆ h₆ => ?_)
        exact wpAny_pure (wpAny_pure (fin _ (h₆ _ _ hs₆ k)))))) fun _ _ e => e)
  rw [bind_assoc] at h₂
  exact wpAny_mono h₂ (fun fin s' hf => by cases fin <;> exact hf) fun _ _ e => e
theorem ci_end (hσ : Pick (I, ao) σ σ') (nx : NxE C I ao σ') (h : QC ρ σ') : ACompE C (LC2 elt t0 i0 t1 i1 scope pos) 1 I D cenv QC ρ σ := by
  intro s RR hs k
  have hs := hs.perm hσ
  refine codeAny_loop' rfl (fun _ s' => s' = s) (fun n s' e => ?_) 0 rfl
  subst e
  show wpAny _ C.A ((compTurn (LC2 elt t0 i0 t1 i1 scope pos) 1 (.ref I) (.ref D) cenv).onRaise (fun x => do noteFrame x cenv; theTreesLotGoes x)) _ _ s'
  refine wpAny_noted ?_
  rw [compTurn_inner]
  exact wpAny_bind (wpAny_standAt (wpAny_bind (nx ρ s' _ _ hs fun s₁ hs₁ => wpAny_pure (k _ _ _ hs₁ h))))
theorem co_end (hσ : Pick (I, ao) σ σ') (nx : NxE C I ao σ') (h : QC ρ σ') : ACompE C (LC2 elt t0 i0 t1 i1 scope pos) 0 I D cenv QC ρ σ := by
  intro s RR hs k
  have hs := hs.perm hσ
  refine codeAny_loop' rfl (fun _ s' => s' = s) (fun n s' e => ?_) 0 rfl
  subst e
  show wpAny _ C.A ((compTurn (LC2 elt t0 i0 t1 i1 scope pos) 0 (.ref I) (.ref D) cenv).onRaise (fun x => do noteFrame x cenv; theTreesLotGoes x)) _ _ s'
  refine wpAny_noted ?_
  rw [compTurn_outer]
  exact wpAny_bind (wpAny_standAt (wpAny_bind (nx ρ s' _ _ hs fun s₁ hs₁ => wpAny_pure (k _ _ _ hs₁ h))))
theorem compStart1 {it acc : Value} {env : Env} {R : Result → Shared → Prop} {s : Shared}
    (h0 : codeAny (model C.prog C.w) C.A (.compLoop (LC2 elt t0 i0 t1 i1 scope pos) 1 it acc env) R s)
    (h : ∀ E', wpAny (model C.prog C.w) C.A (pyIter it) (fun it' s' => codeAny (model C.prog C.w) C.A (.compLoop (LC2 elt t0 i0 t1 i1 scope pos) 1 it' acc env) R s') E' s) :
    codeAny (model C.prog C.w) C.A (.compStart (LC2 elt t0 i0 t1 i1 scope pos) 1 it acc env) R s := by
  refine codeAny_of_tree ?_
  show wpAny _ _ ((compStart (LC2 elt t0 i0 t1 i1 scope pos) 1 it acc env).onRaise (fun x => do noteFrame x env; standAt theWindowsPlace)) _ _ s
  refine wpAny_notedAt ?_
  unfold compStart
  show wpAny _ _ (ask >>= _) _ _ s
  refine wpAny_bind (wpAny_askSetting (wpAny_ite ?_))
  split
  · first
      | exact wpAny_bind (wpAny_pure (wpAny_pure (And.intro rfl h0)))
      | exact wpAny_pure (And.intro rfl h0)
  · first
      | exact wpAny_bind (wpAny_rule (wpAny_bind (wpAny_standAt (wpAny_bind (wpAny_mono (h _) (fun it' s' h' => wpAny_pure (And.intro rfl h')) fun _ _ x => x)))))
      | (refine wpAny_bind (wpAny_rule ?_); show wpAny _ _ (standAt i1.pos >>= _) _ _ s; exact wpAny_bind (wpAny_standAt (wpAny_bind (wpAny_mono (h _) (fun it' s' h' => wpAny_pure (And.intro rfl h')) fun _ _ x => x))))
theorem co_item (hσ : Pick (I, ao) σ σ') (nx : NxI C I ao σ' v ao')
    (h : ∀ E', AAs C E' cenv t0 I v (fun ρ₁ σ₁ => AW RV C E' (eval i1 cenv) (fun a ρ₂ σ₂ => AIt C E' a (fun I' ρ₃ σ₃ => ∃ ao, (I', ao) ∈ σ₃ ∧ NxS C I' ao ∧ ACompE C (LC2 elt t0 i0 t1 i1 scope pos) 1 I' D cenv (ACompE C (LC2 elt t0 i0 t1 i1 scope pos) 0 I D cenv QC) ρ₃ σ₃) ρ₂ σ₂) ρ₁ σ₁) ρ ((I, ao') :: σ'))
    (hfs : ∀ x, foldedSetIterable i1 cenv x = Pure.pure x) :
    ACompE C (LC2 elt t0 i0 t1 i1 scope pos) 0 I D cenv QC ρ σ := by
  intro s RR hs k
  have hs := hs.perm hσ
  refine codeAny_loop' rfl (fun _ s' => s' = s) (fun n s' e => ?_) 0 rfl
  subst e
  show wpAny _ C.A ((compTurn (LC2 elt t0 i0 t1 i1 scope pos) 0 (.ref I) (.ref D) cenv).onRaise (fun x => do noteFrame x cenv; theTreesLotGoes x)) _ _ s'
  refine wpAny_noted ?_
  rw [compTurn_outer]
  refine wpAny_bind (wpAny_standAt (wpAny_bind (nx ρ s' _ _ hs fun vv s₁ rv hs₁ => ?_)))
  generalize notedBy _ _ _ _ = E'
  have h₁ := h E' vv rv s₁ hs₁
  have fin : ∀ s₅, codeAny (model C.prog C.w) C.A (.compLoop (LC2 elt t0 i0 t1 i1 scope pos) 0 (.ref I) (.ref D) cenv) RR s₅ →
      PFc (model C.prog C.w) C.A RR (.compLoop (LC2 elt t0 i0 t1 i1 scope pos) 0 (.ref I) (.ref D) cenv) n s' (Fin.again (.compLoop (LC2 elt t0 i0 t1 i1 scope pos) 0 (.ref I) (.ref D) cenv)) s₅ := fun s₅ x => .inr ⟨rfl, x⟩
  have h₂ := wpAny_bind (Q := PFc (model C.prog C.w) C.A RR (.compLoop (LC2 elt t0 i0 t1 i1 scope pos) 0 (.ref I) (.ref D) cenv) n s') (f := fun _ =>
        eval i1 cenv >>= fun x => standAt i1.pos >>= fun _ => foldedSetIterable i1 cenv x >>= fun x => holding [x] (pyIter x) >>= fun it' => runOwn (.compStart (LC2 elt t0 i0 t1 i1 scope pos) 1 it' (.ref D) cenv) cenv >>= fun _ =>
          again (.compLoop (LC2 elt t0 i0 t1 i1 scope pos) 0 (.ref I) (.ref D) cenv)) (wpAny_mono h₁ (fun _ s₂ ⟨_, ρ₂, σ₂, _, hs₂, q⟩ => wpAny_bind (q.lift1 hs₂ fun y a ρ₄ σ₄ s₄ ry hs₄ h₄ => by
        refine wpAny_bind (wpAny_standAt ?_)
        rw [hfs]
        refine wpAny_bind (wpAny_pure (wpAny_bind (wpAny_holding (wpAny_mono (h₄ y ry _ hs₄) (fun it' s₅ ⟨I', ρ₅, σ₅, e, hs₅, ao, hI, nsf, h₅⟩ => ?_) fun _ _ e => e))))
        subst e
        refine wpAny_bind (wpAny_runOwn ?_)
        have key := h₅ s₅ (fun r sz => match r with | .ok f => wpAny (model C.prog C.w) C.A (again (.compLoop (LC2 elt t0 i0 t1 i1 scope pos) 0 (.ref I) (.ref D) cenv)) (PFc (model C.prog C.w) C.A RR (.compLoop (LC2 elt t0 i0 t1 i1 scope pos) 0 (.ref I) (.ref D) cenv) n s') E' sz | .error e => cameBackBy (model C.prog C.w) C.A cenv E' e sz) hs₅ (fun ρ₆ σ₆ s₆ hs₆ h₆ => ?_)
        · obtain ⟨oI, eI, _, _, rI⟩ := hs₅.led (I', ao) hI
          exact compStart1 key (fun E'' => nsf oI rI _ _ _ eI key)
        · exact wpAny_pure (fin _ (h₆ _ _ hs₆ k)))) fun _ _ e => e)
  rw [bind_assoc] at h₂
  exact wpAny_mono h₂ (fun fin s' hf => by cases fin <;> exact hf) fun _ _ e => e
theorem comp_start2 {E : Value → Shared → Prop} {env : Env} {QC' : Addr → Addr → Loc → Sto → Prop} {ao : AO} {cl : List (Str × Addr)} {s₂ : Shared} {RR : Value → Addr → Result → Shared → Prop} (hs : Rel C ρ σ s₂) (hI : (I, ao) ∈ σ) (nsf : NxS C I ao)
    (hcell : ∀ y ∈ scope.names, y.2 ≠ .cell) (hkind : scope.kind = .function)
    (h : ∀ D c, ACompE C (LC2 elt t0 i0 t1 i1 scope pos) 0 I D (compEnvC scope cl c env) (QC' D c) ρ ((c, .ns []) :: (D, .list []) :: σ))
    (hRR : ∀ D c ρ' σ' s', Rel C ρ' σ' s' → QC' D c ρ' σ' → RR (.ref D) c (.ok .next) s') :
    wpAny (model C.prog C.w) C.A (newList []) (fun acc s₃ => wpAny (model C.prog C.w) C.A (newFunctionEnv scope env.globals cl [] env.qual none .none (some env)) (fun cenv s₄ =>
      codeAny (model C.prog C.w) C.A (.compStart (LC2 elt t0 i0 t1 i1 scope pos) 0 (.ref I) acc { cenv with scope := relabel scope env }) (RR acc cenv.locals) s₄) E s₃) E s₂ := by
  refine wpAny_newObj_type (wpAny_newFunctionEnv hcell (by intro y hy; simp at hy) (fun h₁ hns₁ hsb₁ => ?_) hkind)
  dsimp only at hns₁ hsb₁ ⊢
  have hs₃ : Rel C ρ ((s₂.heap.objs.size, AO.list []) :: σ) { s₂ with heap := s₂.heap.push { cls := .type "list", dict := none, data := .seq ([] : List Value).toArray }, toks := s₂.toks } := hs.push (ao := .list []) ⟨[], 0, .nil, rfl⟩ rfl _
  generalize hH2 : s₂.heap.push { cls := .type "list", dict := none, data := .seq ([] : List Value).toArray } = H2 at hns₁ hsb₁ hs₃ ⊢
  have hs₄ := hs₃.push (o := { cls := .type "dict", data := .dict #[] }) (ao := .pred fun _ => True) trivial rfl s₂.toks
  obtain ⟨oC, eC, hoC⟩ := LCg.ns_obj hns₁
  have hs₅ : Rel C ρ ((H2.objs.size, AO.ns []) :: (s₂.heap.objs.size, .list []) :: σ) { s₂ with heap := h₁, toks := s₂.toks + ([] : List (Str × Value)).length } :=
    hs₄.updP hsb₁ eC (ao' := .ns []) ⟨_, hoC, fun x v e => by simp at e⟩ _
  have key := h s₂.heap.objs.size H2.objs.size _ (RR (.ref s₂.heap.objs.size) H2.objs.size) hs₅ (fun ρ' σ' s' hr hq => hRR _ _ _ _ _ hr hq)
  obtain ⟨oI, eI, _, _, rI⟩ := hs₅.led (I, ao) (.tail _ (.tail _ hI))
  exact codeAny_compStart_list key (nsf oI rI _ _ _ eI key)
theorem ex_comp2L {E : Value → Shared → Prop} {q : Str} {sc : Scope} {f : Addr} {cd : Value} {clf cl : List (Str × Addr)} {y : Str} {py spos : Pos} {QF : AF → Loc → Sto → Prop} (hk : sc.kind = .function) (hx : sc.names.lookup y = some .local) (hl : (py.line == pos.line) = true) (hs : (scope.names.any fun (n, k) => n == y && (k == .local || k == .cell)) = false)
    (hclos : closureFor scope (envX q sc C.L f cd clf) = Pure.pure cl) (hcell : ∀ y ∈ scope.names, y.2 ≠ .cell) (hkind : scope.kind = .function) (hnames : ∀ y ∈ scope.names, y.2 = .local → scope.names.lookup y.1 = some .local)
    (h : AW RV C E (eval i0 (envX q sc C.L f cd clf)) (fun a ρ₁ σ₁ => AIt C E a (fun I ρ₂ σ₂ => ∃ ao, (I, ao) ∈ σ₂ ∧ NxS C I ao ∧ ∀ D c, ACompE C (LC2 elt t0 i0 t1 i1 scope pos) 0 I D (compEnvC scope cl c (envX q sc C.L f cd clf))
      (fun ρ₃ σ₃ => ASt C E (envX q sc C.L f cd clf) y (.ref D) (Gone c (QF .next)) ρ₃ σ₃) ρ₂ ((c, .ns []) :: (D, .list []) :: σ₂)) ρ₁ σ₁) ρ σ)
    (hfs : ∀ x, foldedSetIterable i0 (envX q sc C.L f cd clf) x = Pure.pure x) :
    AW RF C E (exec (.Assign [.Name y py] (LC2 elt t0 i0 t1 i1 scope pos) spos) (envX q sc C.L f cd clf)) QF ρ σ := by
  intro s hs₀
  rw [exec_Assign_Name_used _ _ _ _ (sw_local hk hx hl hs)]
  refine wpAny_bind (wpAny_standAt (wpAny_bind ?_))
  show wpAny _ C.A (do let _ ← comprehension (LC2 elt t0 i0 t1 i1 scope pos) scope (envX q sc C.L f cd clf) _ (newList []) false (eval i0 (envX q sc C.L f cd clf)) (some (assign (.Name y py) (envX q sc C.L f cd clf)))) _ _ s
  refine wpAny_bind (wpAny_mono (wpAny_comprehension_free (Q := fun _ s' => ∃ b ρ' σ', RF b .next ∧ Rel C ρ' σ' s' ∧ QF b ρ' σ') (use := some (assign (.Name y py) (envX q sc C.L f cd clf))) rfl hfs hclos hkind hnames (h.lift1 hs₀ fun v a _ _ s₁ rv hs₁ h₁ => wpAny_mono (h₁ v rv _ hs₁) (fun it s₂ ⟨I, ρ', σ', e, hs₂, ao, hI, nsf, h₂⟩ => ?_) fun _ _ e => e)) (fun _ s' hq => wpAny_pure (wpAny_pure hq)) fun _ _ e => e)
  subst e
  refine comp_start2 (RR := fun acc c => compPost (model C.prog C.w) C.A E (some (assign (.Name y py) (envX q sc C.L f cd clf))) (fun _ s' => ∃ b ρ' σ', RF b .next ∧ Rel C ρ' σ' s' ∧ QF b ρ' σ') acc c) hs₂ hI nsf hcell hkind
    (QC' := fun D c ρ₃ σ₃ => ASt C E (envX q sc C.L f cd clf) y (.ref D) (Gone c (QF .next)) ρ₃ σ₃) h₂ ?_
  rintro D c ρ₃ σ₃ s₃ hs₃ hq
  show wpAny _ C.A (assign (.Name y py) (envX q sc C.L f cd clf) (.ref D)) _ _ _
  refine wpAny_assign_Name ((hq (.ref D) rfl).lift1 hs₃ fun _ _ ρ₄ σ₄ s₄ _ hs₄ ⟨ρ₅, σ₅, hp, hq'⟩ => ?_)
  have hs₄ := hs₄.perm hp
  obtain ⟨o, e, _, _, m, hn, _⟩ := hs₄.led (c, .ns ρ₅) (.head _)
  exact ⟨m, hn.ns e, fun h' hsb => ⟨.next, _, _, rfl, hs₄.extP hsb.extBut s₄.toks, hq'⟩⟩
end
end Mine
namespace Mine
open PySem PySem.W PySem.Spec PySem.Calls PyProof.Rows
/-! a def with cells -/
def isLoc (sc : Scope) (n : Str) : Bool := sc.names.lookup n == some .local
theorem bindL_get (sc : Scope) (kindOf : Str → Option NameKind) (hk : ∀ n, kindOf n = sc.names.lookup n) : ∀ {ps : List (Str × Value)} {m : Str → Option Value} {x : Str}, (ps.map (·.1)).Nodup →
    bindL kindOf ps m x = match (ps.filter fun p => isLoc sc p.1).lookup x with | some v => some v | none => m x
  | [], m, x, _ => rfl
  | (n, v) :: r, m, x, hnd => by
    rw [List.map_cons, List.nodup_cons] at hnd
    rw [bindL, bindL_get sc kindOf hk hnd.2, List.filter_cons]
    by_cases h : isLoc sc n = true
    · have h' : kindOf n = some .local := by rw [hk]; unfold isLoc at h; simpa using h
      rw [if_pos h', if_pos h, List.lookup_cons]
      by_cases e : x = n
      · subst e
        have : (r.filter fun p => isLoc sc p.1).lookup x = none := by
          rw [List.lookup_eq_none_iff]
          intro p hp
          rw [bne_iff_ne]
          intro e
          exact hnd.1 (e ▸ List.mem_map.mpr ⟨p, (List.mem_filter.mp hp).1, rfl⟩)
        simp [this]
      · simp [beq_eq_false_iff_ne.mpr e, e]
    · have h' : ¬ kindOf n = some .local := by rw [hk]; unfold isLoc at h; simpa using h
      rw [if_neg h', if_neg h]
theorem bindC_get (sc : Scope) (kindOf : Str → Option NameKind) (hk : ∀ n, kindOf n = sc.names.lookup n) : ∀ {ps : List (Str × Value)} {m : Str → Option Value} {x : Str}, (ps.map (·.1)).Nodup →
    bindC kindOf ps m x = match (ps.filter fun p => !isLoc sc p.1).lookup x with | some v => some v | none => m x
  | [], m, x, _ => rfl
  | (n, v) :: r, m, x, hnd => by
    rw [List.map_cons, List.nodup_cons] at hnd
    rw [bindC, bindC_get sc kindOf hk hnd.2, List.filter_cons]
    by_cases h : isLoc sc n = true
    · have h' : kindOf n = some .local := by rw [hk]; unfold isLoc at h; simpa using h
      rw [if_pos h', show (!isLoc sc (n, v).fst) = false by simpa using h]; rfl
    · have h' : ¬ kindOf n = some .local := by rw [hk]; unfold isLoc at h; simpa using h
      rw [if_neg h', show (!isLoc sc (n, v).fst) = true by simpa using h, if_pos rfl, List.lookup_cons]
      by_cases e : x = n
      · subst e
        have : (r.filter fun p => !isLoc sc p.1).lookup x = none := by
          rw [List.lookup_eq_none_iff]
          intro p hp
          rw [bne_iff_ne]
          intro e
          exact hnd.1 (e ▸ List.mem_map.mpr ⟨p, (List.mem_filter.mp hp).1, rfl⟩)
        simp [this]
      · simp [beq_eq_false_iff_ne.mpr e, e]
theorem filt_lookup {P : Str → Bool} : ∀ {names : List Str} {as : List AV} {vs : List Value}, RVs as vs → ∀ x, ORel (((names.zip as).filter fun p => P p.1).lookup x) (((names.zip vs).filter fun p => P p.1).lookup x)
  | [], as, vs, _, x => by simp [ORel]
  | n :: r, _, _, .nil, x => by simp [ORel]
  | n :: r, _, _, .cons h1 h2, x => by
    rw [List.zip_cons_cons, List.zip_cons_cons, List.filter_cons, List.filter_cons]
    have ih := filt_lookup (P := P) (names := r) h2 x
    cases hp : P n with
    | false => simpa using ih
    | true =>
      simp only [if_true, List.lookup_cons]
      by_cases e : x = n
      · subst e; simpa [ORel] using h1
      · simp only [beq_eq_false_iff_ne.mpr e]; exact ih
theorem cellsFrom_addr : ∀ (names : List (Str × NameKind)) (n : Nat) (acc : List (Str × Addr)) (lo : Nat), lo ≤ n → (∀ p ∈ acc, lo ≤ p.2 ∧ p.2 < n) → (acc.map (·.2)).Nodup →
    (∀ p ∈ cellsFrom n names acc, lo ≤ p.2) ∧ ((cellsFrom n names acc).map (·.2)).Nodup
  | [], n, acc, lo, _, h1, h2 => ⟨fun p hp => (h1 p hp).1, h2⟩
  | (nm, k) :: r, n, acc, lo, hlo, h1, h2 => by
    unfold cellsFrom
    split
    · refine cellsFrom_addr r (n + 1) _ lo (by omega) (fun p hp => ?_) ?_
      · rcases List.mem_cons.mp hp with rfl | hp
        · exact ⟨hlo, Nat.lt_succ_self _⟩
        · have := h1 p hp; exact ⟨this.1, Nat.lt_succ_of_lt this.2⟩
      · rw [List.map_cons, List.nodup_cons]
        refine ⟨fun hm => ?_, h2⟩
        obtain ⟨p, hp, e⟩ := List.mem_map.mp hm
        have := (h1 p hp).2
        have e' : p.2 = n := e
        rw [e'] at this
        exact Nat.lt_irrefl _ this
    · exact cellsFrom_addr r n acc lo hlo h1 h2
theorem cellsAre_get {cm : Str → Option Value} : ∀ {cs : List (Str × Addr)} {cells : List (Addr × Obj)}, CellsAre cm cs cells → ∀ p ∈ cs, ∃ o, (p.2, o) ∈ cells ∧ o.data = .cell (cm p.1)
  | _, _, .nil, p, hp => nomatch hp
  | _, _, .cons h r, p, hp => by
    rcases List.mem_cons.mp hp with rfl | hp
    · exact ⟨_, .head _, h⟩
    · obtain ⟨o, h1, h2⟩ := cellsAre_get r p hp
      exact ⟨o, .tail _ h1, h2⟩
section
variable {C : Cx} {E : Value → Shared → Prop} {ρ : Loc} {σ : Sto} {env : Env} {Q : AV → Loc → Sto → Prop} {n : Nat}
theorem b_defC {f : Addr} {name qual : Str} {params : Arguments} {body : List Stmt} {scope : Scope} {dV kV doc pm cdv ct oc : Value} {an od : Option Addr} {osl : Array (Option Value)} {as : List AV} {names : List Str} {locs : Loc} {cls : Addr → List (Str × Addr)} {cs : Addr → Sto}
    (O : C.Ok env (n + 1)) (ho : C.K.lookup f = some ⟨oc, od, .func (fnX name qual params body scope [] dV kV doc pm an cdv ct), osl⟩) (hcd : codeIn C.K cdv qual = true)
    (hb : ∀ vs : List Value, vs.length = as.length → bindArgs (fnX name qual params body scope [] dV kV doc pm an cdv ct) ⟨vs, []⟩ = Pure.pure (names.zip vs)) (hnd : names.Nodup)
    (hkind : ∀ n, ∀ x ∈ names, scope.names.lookup x = some .local ∨ (scope.names.lookup x = some .cell ∧ ((cellsFrom n scope.names []).lookup x).isSome = true))
    (hcnd : ((cellsFrom 0 scope.names []).map (·.1)).Nodup)
    (hlocs : ((names.zip as).filter fun p => isLoc scope p.1) = locs) (hcls : ∀ L, cellsFrom (L + 1) scope.names [] = cls L)
    (hcs : ∀ L, ((cls L).map fun nc => (nc.2, AO.cell (((names.zip as).filter fun p => !isLoc scope p.1).lookup nc.1))) = cs L)
    (hco : scope.isCoroutine = false) (hgen : scope.isGenerator = false) (hk : scope.kind = .function)
    (h : ∀ g L', (C.callee env (envX qual scope L' f cdv (cls L')) g L').Ok (envX qual scope L' f cdv (cls L')) n → C.h₀.StaysIn g → AW RF (C.callee env (envX qual scope L' f cdv (cls L')) g L') (CE C (envX qual scope L' f cdv (cls L')) E) (execs body (envX qual scope L' f cdv (cls L'))) (fun fl _ σ' => Q fl.val ρ σ') locs (cs L' ++ σ)) :
    ACall C E (.ref f) as Q ρ σ := by
  intro vs hvs s hs
  obtain ⟨m, news, F, hl, N, hm⟩ := hs.frame
  refine wpAny_call ?_
  refine callX_cells (binds := names.zip vs) O.B F N O.T.nolimit O.hA O.hf O.hk ((O.X.keeps F.keep) _ _ ho) rfl (codeRec_of (O.X.keeps F.keep) hcd) (by have := O.depth; omega) (BindsTo.of_eq (hb vs hvs.length)) (fun n x hx => hkind n x.1 (List.of_mem_zip hx).1) hcnd
    (fun g L' h₁ tk cells FG F' N' CA B' st lt => ?_) hco hgen hk
  have hzn := zip_keys names vs hnd
  have hev : envOfC qual scope L' f cdv = envX qual scope L' f cdv (cls L') := by
    show envX qual scope L' f cdv (cellsFrom (L' + 1) scope.names []) = _
    rw [hcls]
  have hs' : Rel (C.callee env (envX qual scope L' f cdv (cls L')) g L') locs (cs L' ++ σ) { s with heap := h₁, toks := tk } := by
    obtain ⟨⟨h'', tk', e⟩, _, led0, nd⟩ := hs
    subst e
    have ha := cellsFrom_addr scope.names (L' + 1) [] (L' + 1) (Nat.le_refl _) (by simp) (by simp)
    rw [hcls] at ha
    refine ⟨⟨h₁, _, rfl⟩, ⟨_, F', ?_⟩, fun p hp => ?_, ?_⟩
    · intro x a hx
      rw [bindL_get scope (envOfC qual scope L' f cdv).kindOf (fun _ => rfl) hzn]
      rw [← hlocs] at hx
      have := filt_lookup (P := isLoc scope) (names := names) hvs x
      rw [hx] at this
      cases hv : ((names.zip vs).filter fun p => isLoc scope p.1).lookup x with
      | none => rw [hv] at this; exact this.elim
      | some v => rw [hv] at this; exact ⟨v, rfl, this⟩
    · rcases List.mem_append.mp hp with hp | hp
      · rw [← hcs] at hp
        obtain ⟨nc, hnc, rfl⟩ := List.mem_map.mp hp
        rw [hcls] at CA
        obtain ⟨o, h1, h2⟩ := cellsAre_get CA nc hnc
        have := N' _ (List.mem_append_left _ h1)
        refine ⟨o, this.1, this.2.1, this.2.2, ?_⟩
        rw [bindC_get scope (envOfC qual scope L' f cdv).kindOf (fun _ => rfl) hzn] at h2
        have hr := filt_lookup (P := fun n => !isLoc scope n) (names := names) hvs nc.1
        dsimp only
        cases ha : ((names.zip as).filter fun p => !isLoc scope p.1).lookup nc.1 with
        | none => exact ⟨_, h2⟩
        | some a =>
          rw [ha] at hr
          cases hv : ((names.zip vs).filter fun p => !isLoc scope p.1).lookup nc.1 with
          | none => rw [hv] at hr; exact hr.elim
          | some v => rw [hv] at hr h2; exact ⟨v, hr, h2⟩
      · obtain ⟨o, hn, r⟩ := hm p hp
        have := N' _ (List.mem_append_right _ hn)
        exact ⟨o, this.1, this.2.1, this.2.2, r⟩
    · rw [List.map_append, ← hcs, List.map_map]
      refine List.nodup_append.mpr ⟨ha.2, nd, fun a ha1 b hb1 e => ?_⟩
      obtain ⟨nc, hnc, rfl⟩ := List.mem_map.mp ha1
      obtain ⟨p, hp, rfl⟩ := List.mem_map.mp hb1
      obtain ⟨o, hn, _⟩ := hm p hp
      have h1 := lt _ hn
      have h2 := ha.1 nc hnc
      have e' : nc.2 = p.1 := e
      have h1' : p.1 < L' := h1
      rw [e'] at h2
      exact Nat.lt_irrefl _ (Nat.lt_trans h1' (Nat.lt_of_lt_of_le (Nat.lt_succ_self L') h2))
  rw [hev]
  refine wpAny_mono (h g L' (O.callee (s := s) B' st rfl hk) st _ hs') (fun fl s' ⟨fl', ρ', σ', rf, hs₂, q⟩ => ?_) fun e s' x => x
  obtain ⟨m', news', F₂, hl₂, N₂, hm₂⟩ := hs₂.frame
  refine leaveK_ F₂ N₂ fun F₃ N₃ => ?_
  have hr : Rel C ρ σ' s' := by
    obtain ⟨⟨h'', tk, e⟩, _, _, nd⟩ := hs₂
    refine ⟨⟨h'', tk, e⟩, ⟨m, F₃, hl⟩, fun p hp => ?_, nd⟩
    obtain ⟨o, hn, r⟩ := hm₂ p hp
    exact ⟨o, (N₃ _ hn).1, (N₃ _ hn).2.1, (N₃ _ hn).2.2, r⟩
  cases fl' with
  | next => cases rf; exact ⟨.none, ρ, σ', rfl, hr, q⟩
  | brk => cases rf; exact ⟨.none, ρ, σ', rfl, hr, q⟩
  | cont => cases rf; exact ⟨.none, ρ, σ', rfl, hr, q⟩
  | ret a => obtain ⟨v, rfl, rv⟩ := rf; exact ⟨a, ρ, σ', rv, hr, q⟩
theorem b_fnC {p : Program} {nm : String} {f : Addr} {as : List AV} {names : List Str} {locs : Loc} {cls : Addr → List (Str × Addr)} {cs : Addr → Sto} (O : C.Ok env (n + 1)) (F : Fn C.K p nm f)
    (hb : ∀ qual pm cdv (vs : List Value), vs.length = as.length → bindArgs (fnX (Str.ofString nm) qual (fnArgs p nm) (fnBody p nm) (fnScope p nm) [] .none .none .none pm none cdv .none) ⟨vs, []⟩ = Pure.pure (names.zip vs)) (hnd : names.Nodup)
    (hkind : ∀ n, ∀ x ∈ names, (fnScope p nm).names.lookup x = some .local ∨ ((fnScope p nm).names.lookup x = some .cell ∧ ((cellsFrom n (fnScope p nm).names []).lookup x).isSome = true))
    (hcnd : ((cellsFrom 0 (fnScope p nm).names []).map (·.1)).Nodup)
    (hlocs : ((names.zip as).filter fun p' => isLoc (fnScope p nm) p'.1) = locs) (hcls : ∀ L, cellsFrom (L + 1) (fnScope p nm).names [] = cls L)
    (hcs : ∀ L, ((cls L).map fun nc => (nc.2, AO.cell (((names.zip as).filter fun p' => !isLoc (fnScope p nm) p'.1).lookup nc.1))) = cs L)
    (hco : (fnScope p nm).isCoroutine = false) (hgen : (fnScope p nm).isGenerator = false) (hk : (fnScope p nm).kind = .function)
    (h : ∀ (C' : Cx) qual cdv E', C'.K = C.K → C'.prog = C.prog → C'.w = C.w → C'.s₀ = C.s₀ → C.h₀.StaysIn C'.h₀ → C'.Ok (envX qual (fnScope p nm) C'.L f cdv (cls C'.L)) n → AW RF C' E' (execs (fnBody p nm) (envX qual (fnScope p nm) C'.L f cdv (cls C'.L))) (fun fl _ σ' => Q fl.val ρ σ') locs (cs C'.L ++ σ)) :
    ACall C E (.ref f) as Q ρ σ := by
  obtain ⟨oc, od, osl, qual, pm, cdv, ho, hcd⟩ := F.obj
  exact b_defC O ho hcd (hb qual pm cdv) hnd hkind hcnd hlocs hcls hcs hco hgen hk fun g L' Ok' st => h (C.callee env (envX qual (fnScope p nm) L' f cdv (cls L')) g L') qual cdv _ rfl rfl rfl rfl st Ok'
end
theorem BaseL.stays {C C' : Cx} {a : Addr} {xs : List AV} (h : BaseL C a xs) (hs : C.h₀.StaysIn C'.h₀) : BaseL C' a xs := by
  obtain ⟨vs, r, hl⟩ := h
  exact ⟨vs, r, hl.at fun o e => hs a o e⟩
/-! predicates that the driver knows -/
def AKey (a : AV) (P : List Nat → Prop) : Prop := ∃ k, a = .str (tx k) ∧ P k
theorem akey {k : List Nat} {P : List Nat → Prop} (h : P k) : AKey (.str (tx k)) P := ⟨k, rfl, h⟩
def ADPut (C : Cx) (r : Addr) (new : List (List Nat × AV)) (P : Loc → Sto → Prop) (ρ : Loc) (σ : Sto) : Prop := ∃ σ₂, new.length ≤ 1000 ∧ Pick (r, dictO C.prog C.w []) σ σ₂ ∧ P ρ ((r, dictO C.prog C.w (putAll [] new)) :: σ₂)
theorem adput {C : Cx} {r : Addr} {new : List (List Nat × AV)} {P : Loc → Sto → Prop} {ρ : Loc} {σ σ₂ : Sto} (hz : new.length ≤ 1000) (hp : Pick (r, dictO C.prog C.w []) σ σ₂) (h : P ρ ((r, dictO C.prog C.w (putAll [] new)) :: σ₂)) : ADPut C r new P ρ σ := ⟨σ₂, hz, hp, h⟩
section
variable {C : Cx} {E : Value → Shared → Prop} {ρ : Loc} {σ : Sto} {env : Env} {pos : Pos} {Q : AV → Loc → Sto → Prop}
theorem aw_DictX {keys : List (Option Expr)} {values : List Expr} (G : C.Gl) (hall : keys.all (·.isSome) = true) (hl : keys.length = values.length) (h0 : keys.isEmpty = false) (hlen : decide (keys.length ≤ 15) = true)
    (h : ∀ r, (r == sysModules) = false → AW RPs C E (evalPairs (pairTrees keys values env pos)) (fun new ρ₁ σ₁ => ADPut C r new (Q (.ref r)) ρ₁ σ₁) ρ ((r, dictO C.prog C.w []) :: σ)) :
    AW RV C E (eval (.Dict keys values pos) env) Q ρ σ := aw_Dict G hall hl (by rintro rfl; cases h0) (of_decide_eq_true hlen) h
theorem pt_consX {ke ve : Expr} {ks : List (Option Expr)} {vs : List Expr} {QP : List (List Nat × AV) → Loc → Sto → Prop}
    (h : AW RV C E (eval ke env) (fun a ρ₁ σ₁ => AKey a fun k => AW RV C E (eval ve env) (fun b ρ₂ σ₂ => AW RPs C E (evalPairs (pairTrees ks vs env pos)) (fun r ρ₃ σ₃ => QP ((k, b) :: r) ρ₃ σ₃) ρ₂ σ₂) ρ₁ σ₁) ρ σ) :
    AW RPs C E (evalPairs (pairTrees (some ke :: ks) (ve :: vs) env pos)) QP ρ σ := pt_cons h
end
theorem b_len_base {C : Cx} {E : Value → Shared → Prop} {ρ : Loc} {σ : Sto} {Q : AV → Loc → Sto → Prop} {a : Addr} {xs : List AV} (hb : BaseL C a xs) (hx : xs.length ≤ sizeLine) (h : Q (.int xs.length) ρ σ) : ACall C E (.builtin "len") [.ref a] Q ρ σ := by
  intro vs hv s hs
  obtain ⟨_, rfl, rfl⟩ := RVs.one' (as := []) hv
  obtain ⟨ws, r, hl⟩ := hs.baseL hb
  refine len_list hl (by rw [sizeLine_eq] at hx; rw [List.size_toArray, r.length]; omega) ?_
  rw [List.size_toArray, r.length]
  exact ⟨.int _, _, _, ⟨_, rfl⟩, hs.toks _, h⟩
theorem bits_ok {b : Int} (h : b.natAbs < 2 ^ 63) : Builtin.Int.intBits b ≤ 64 := by
  unfold Builtin.Int.intBits
  split
  · exact Nat.zero_le _
  · rename_i hb
    have := (Nat.log2_lt (n := b.natAbs) (by intro e; exact hb (by simpa using e)) (k := 63)).mpr h
    omega
end Mine
namespace Mine
open PySem PySem.W PySem.Spec PySem.Calls PyProof.Rows
section
variable {C : Cx} {ρ : Loc} {σ : Sto} {cenv : Env} {pos : Pos} {elt t0 i0 t1 i1 : Expr} {scope : Scope} {I D c : Addr} {QC : Loc → Sto → Prop}
theorem Rel.nsSub {s : Shared} {ρ₂ ρ₃ : Loc} (h : Rel C ρ ((c, .ns ρ₂) :: σ) s) (hl : LocSub ρ₃ ρ₂) : Rel C ρ ((c, .ns ρ₃) :: σ) s := by
  refine ⟨h.shape, h.fr, fun p hp => ?_, by simpa using h.nd⟩
  rcases List.mem_cons.mp hp with rfl | hp
  · obtain ⟨o, h1, h2, h3, m, hn, hm⟩ := h.led (c, .ns ρ₂) (.head _)
    exact ⟨o, h1, h2, h3, m, hn, fun x v e => hm x v (hl.sub x v e)⟩
  · exact h.led _ (.tail _ hp)
theorem ACompE.ns {e : Expr} {depth : Nat} {ρ₂ ρ₃ : Loc} (h : ACompE C e depth I D cenv QC ρ ((c, .ns ρ₃) :: σ)) (hl : LocSub ρ₃ ρ₂) : ACompE C e depth I D cenv QC ρ ((c, .ns ρ₂) :: σ) := fun s RR hr k => h s RR (hr.nsSub hl) k
theorem ACompE.subS {e : Expr} {depth : Nat} {σ' : Sto} (h : ACompE C e depth I D cenv QC ρ σ') (hs : SubS σ' σ) : ACompE C e depth I D cenv QC ρ σ := fun s RR hr k => h s RR (hr.subS hs) k
theorem SubS.perm {σ₁ σ₂ : Sto} (h : σ₂.Perm σ₁) : SubS σ₁ σ₂ := ⟨[], by rw [List.append_nil]; exact h⟩
theorem comp2_fm {α β : Type} {it0 it1 : Nat → AO} {ok0 ok1 : Sto → Prop} (g0 : α → AV) (as : List α) (W0 : Iter C it0 (as.map g0) ok0) (g1 : β → AV) (bs : List β) (W1 : Iter C it1 (bs.map g1) ok1) (f : α → β → AV) (n0 : α → Loc)
    (hz : as.length * bs.length ≤ 1000000) (hok0 : ok0 σ) (hok1 : ok1 σ) (hfs : ∀ x, foldedSetIterable i1 cenv x = Pure.pure x)
    (step1 : ∀ x ∈ as, ∀ E' acc i, AAs C E' cenv t0 I (g0 x) (fun ρ₁ σ₁ => AW RV C E' (eval i1 cenv) (fun a ρ₂ σ₂ => AIt C E' a (fun I' ρ₃ σ₃ => SubS ((I', it1 0) :: (c, .ns (n0 x)) :: (D, .list acc) :: (I, it0 i) :: σ) σ₃ ∧ LocSub ρ ρ₃) ρ₂ σ₂) ρ₁ σ₁) ρ ((I, it0 i) :: (c, .ns []) :: (D, .list acc) :: σ))
    (step2 : ∀ x ∈ as, ∀ y ∈ bs, ∀ E' acc i j I', AAs C E' cenv t1 I' (g1 y) (fun ρ₁ σ₁ => AW RV C E' (eval elt cenv) (fun v ρ₂ σ₂ => ∃ nsρ, v = f x y ∧ LocSub (n0 x) nsρ ∧ SubS ((D, .list acc) :: (c, .ns nsρ) :: (I', it1 j) :: (I, it0 i) :: σ) σ₂ ∧ LocSub ρ ρ₂) ρ₁ σ₁) ρ ((I', it1 j) :: (c, .ns (n0 x)) :: (D, .list acc) :: (I, it0 i) :: σ))
    (hn0 : ∀ x, ((n0 x).map (·.1)).Nodup)
    (fin : ∀ nsρ, QC ρ ((c, .ns nsρ) :: (D, .list (as.flatMap fun x => bs.map (f x))) :: σ)) :
    ACompE C (LC2 elt t0 i0 t1 i1 scope pos) 0 I D cenv QC ρ ((c, .ns []) :: (D, .list []) :: (I, it0 0) :: σ) := by
  have hsz : ∀ d r : List α, as = d ++ r → ∀ d2 r2 : List β, ∀ x, bs = d2 ++ r2 → d.length < as.length → ((d.flatMap fun x => bs.map (f x)) ++ d2.map (f x)).length ≤ sizeLine := by
    intro d r e d2 r2 x e2 hlt
    have : ∀ d : List α, (d.flatMap fun x => bs.map (f x)).length = d.length * bs.length := by
      intro d
      induction d with
      | nil => simp
      | cons a d ih => rw [List.flatMap_cons, List.length_append, ih, List.length_map, List.length_cons, Nat.succ_mul]; omega
    rw [List.length_append, this, List.length_map]
    have h1 : d2.length ≤ bs.length := by rw [e2]; simp
    have h2 : (d.length + 1) * bs.length ≤ as.length * bs.length := Nat.mul_le_mul_right _ hlt
    rw [Nat.succ_mul] at h2
    rw [sizeLine_eq]; omega
  have outer : ∀ (r d : List α) (nsρ : Loc), as = d ++ r → ACompE C (LC2 elt t0 i0 t1 i1 scope pos) 0 I D cenv QC ρ ((I, it0 d.length) :: (c, .ns nsρ) :: (D, .list (d.flatMap fun x => bs.map (f x))) :: σ) := by
    intro r
    induction r with
    | nil =>
      intro d nsρ e
      rw [List.append_nil] at e
      subst e
      have := W0.fin I ((c, .ns nsρ) :: (D, .list (as.flatMap fun x => bs.map (f x))) :: σ) (W0.more _ _ (W0.more _ _ hok0))
      rw [List.length_map] at this
      exact co_end Pick.head this (fin nsρ)
    | cons x r ih =>
      intro d nsρ e
      have hx : x ∈ as := by rw [e]; simp
      have hdl : d.length < as.length := by rw [e]; simp
      have hpre : ((d ++ [x]).flatMap fun x => bs.map (f x)) = (d.flatMap fun x => bs.map (f x)) ++ bs.map (f x) := by simp
      have ih' := fun nsρ => ih (d ++ [x]) nsρ (by rw [e]; simp)
      rw [hpre] at ih'
      have hlen1 : (d ++ [x]).length = d.length + 1 := by simp
      rw [hlen1] at ih'
      generalize hp : (d.flatMap fun x => bs.map (f x)) = pre at *
      have inner : ∀ (I' : Addr) (r2 d2 : List β) (nsρ : Loc), LocSub (n0 x) nsρ → bs = d2 ++ r2 → ACompE C (LC2 elt t0 i0 t1 i1 scope pos) 1 I' D cenv (ACompE C (LC2 elt t0 i0 t1 i1 scope pos) 0 I D cenv QC) ρ ((I', it1 d2.length) :: (c, .ns nsρ) :: (D, .list (pre ++ d2.map (f x))) :: (I, it0 (d.length + 1)) :: σ) := by
        intro I' r2
        induction r2 with
        | nil =>
          intro d2 nsρ hns e2
          rw [List.append_nil] at e2
          subst e2
          have := W1.fin I' ((c, .ns nsρ) :: (D, .list (pre ++ bs.map (f x))) :: (I, it0 (d.length + 1)) :: σ) (W1.more _ _ (W1.more _ _ (W1.more _ _ hok1)))
          rw [List.length_map] at this
          refine ci_end Pick.head this ((ih' nsρ).subS (SubS.perm ?_))
          exact ((List.Perm.swap _ _ _).cons _).trans (List.Perm.swap _ _ _)
        | cons y r2 ih2 =>
          intro d2 nsρ hns e2
          have hy : y ∈ bs := by rw [e2]; simp
          have key : ACompE C (LC2 elt t0 i0 t1 i1 scope pos) 1 I' D cenv (ACompE C (LC2 elt t0 i0 t1 i1 scope pos) 0 I D cenv QC) ρ ((I', it1 d2.length) :: (c, .ns (n0 x)) :: (D, .list (pre ++ d2.map (f x))) :: (I, it0 (d.length + 1)) :: σ) := by
            refine ci_item Pick.head (W1.item _ _ _ (g1 y) (W1.more _ _ (W1.more _ _ (W1.more _ _ hok1))) (by rw [e2]; simp)) fun E' => ?_
            intro vv rv s hs
            refine wpAny_mono (step2 x hx y hy E' (pre ++ d2.map (f x)) (d.length + 1) (d2.length + 1) I' vv rv s hs) (fun _ s' ⟨u, ρ₁, σ₁, eu, hs₁, h₁⟩ => ⟨u, ρ₁, σ₁, eu, hs₁, h₁.mono fun v ρ₂ σ₂ h₂ => ?_⟩) fun _ _ e => e
            obtain ⟨nsρ', rfl, hns', ⟨l, hperm⟩, hloc⟩ := h₂
            refine ⟨pre ++ d2.map (f x), (c, .ns nsρ') :: (I', it1 (d2.length + 1)) :: (I, it0 (d.length + 1)) :: σ ++ l, hperm, ?_, ?_⟩
            · have := hsz d (x :: r) e d2 (y :: r2) x e2 hdl
              rw [hp] at this
              exact this
            · have := ih2 (d2 ++ [y]) nsρ' hns' (by rw [e2]; simp)
              rw [List.length_append, List.length_singleton, List.map_append, ← List.append_assoc] at this
              refine this.to ⟨l, ?_⟩ hloc
              exact ((List.Perm.swap _ _ _).trans ((List.Perm.swap _ _ _).cons _)).trans (List.Perm.swap _ _ _)
          have k2 := key.subS (σ := (c, .ns (n0 x)) :: (I', it1 d2.length) :: (D, .list (pre ++ d2.map (f x))) :: (I, it0 (d.length + 1)) :: σ) (SubS.perm (.swap _ _ _))
          exact (k2.ns hns).subS (SubS.perm (.swap _ _ _))
      have key : ACompE C (LC2 elt t0 i0 t1 i1 scope pos) 0 I D cenv QC ρ ((I, it0 d.length) :: (c, .ns []) :: (D, .list pre) :: σ) := by
        refine co_item Pick.head (W0.item _ _ _ (g0 x) (W0.more _ _ (W0.more _ _ hok0)) (by rw [e]; simp)) (fun E' => ?_) hfs
        intro vv rv s hs
        refine wpAny_mono (step1 x hx E' pre (d.length + 1) vv rv s hs) (fun _ s' ⟨u, ρ₁, σ₁, eu, hs₁, h₁⟩ => ⟨u, ρ₁, σ₁, eu, hs₁, h₁.mono fun a ρ₂ σ₂ h₂ => ?_⟩) fun _ _ e => e
        intro v' rv' s₂ hs₂
        refine wpAny_mono (h₂ v' rv' s₂ hs₂) (fun it' s₃ ⟨I', ρ₃, σ₃, ei, hs₃, hsub, hloc⟩ => ⟨I', ρ₃, σ₃, ei, hs₃, it1 0, hsub.mem (.head _), W1.self _ _, ?_⟩) fun _ _ e => e
        have := inner I' bs [] (n0 x) (LocSub.refl (hn0 x)) rfl
        rw [List.map_nil, List.append_nil] at this
        exact this.to hsub hloc
      have k2 := key.subS (σ := (c, .ns []) :: (I, it0 d.length) :: (D, .list pre) :: σ) (SubS.perm (.swap _ _ _))
      exact (k2.ns (ρ₂ := nsρ) LocSub.nil).subS (SubS.perm (.swap _ _ _))
  exact (outer as [] [] rfl).subS (SubS.perm (((List.Perm.swap _ _ _).cons _).trans (List.Perm.swap _ _ _)))
end
end Mine
namespace Mine
open PySem
inductive Fm : List Nat → Int → Prop
  | a1 {a} (ha : dig a = true) : Fm [a] (3600 * fig a)
  | a2 {a b} (ha : dig a = true) (hb : dig b = true) : Fm [a, b] (3600 * (10 * fig a + fig b))
  | a1c {a} (ha : dig a = true) : Fm [a, 58] (3600 * fig a)
  | a2c {a b} (ha : dig a = true) (hb : dig b = true) : Fm [a, b, 58] (3600 * (10 * fig a + fig b))
  | a3 {a b c} (ha : dig a = true) (hb : dig b = true) (hc : dig c = true) : Fm [a, b, c] (3600 * fig a + 60 * (10 * fig b + fig c))
  | a4 {a b c d} (ha : dig a = true) (hb : dig b = true) (hc : dig c = true) (hd : dig d = true) : Fm [a, b, c, d] (3600 * (10 * fig a + fig b) + 60 * (10 * fig c + fig d))
  | a1c2 {a c d} (ha : dig a = true) (hc : dig c = true) (hd : dig d = true) : Fm [a, 58, c, d] (3600 * fig a + 60 * (10 * fig c + fig d))
  | a2c2 {a b c d} (ha : dig a = true) (hb : dig b = true) (hc : dig c = true) (hd : dig d = true) : Fm [a, b, 58, c, d] (3600 * (10 * fig a + fig b) + 60 * (10 * fig c + fig d))
theorem dg58 : dig 58 = false := rfl
theorem dg10 : dig 10 = false := rfl
theorem dne {a : Nat} (h : dig a = true) : a ≠ 58 ∧ a ≠ 10 ∧ a ≠ 43 ∧ a ≠ 45 := by
  have := dig_le h
  omega
theorem vMin_some {u : List Nat} {h n : Int} (e : vMin u h = some n) : (eot u ∧ n = 3600 * h) ∨ ∃ a b t, u = a :: b :: t ∧ dig a = true ∧ dig b = true ∧ eot t ∧ n = 3600 * h + 60 * (10 * fig a + fig b) := by
  unfold vMin at e
  rcases Option.or_eq_some_iff.mp e with e | ⟨_, e⟩
  · right
    rcases u with _ | ⟨a, _ | ⟨b, t⟩⟩
    · cases e
    · cases e
    · unfold vTwo at e
      dsimp only at e
      split at e
      · rename_i hd
        split at e
        · rename_i ht
          have hd := Bool.and_eq_true_iff.mp hd
          exact ⟨a, b, t, rfl, hd.1, hd.2, ht, (Option.some.inj e).symm⟩
        · cases e
      · cases e
  · left
    unfold vFin at e
    split at e
    · rename_i ht; exact ⟨ht, (Option.some.inj e).symm⟩
    · cases e
theorem vCol_some {u : List Nat} {h n : Int} (e : vCol u h = some n) : ∃ u', (u = u' ∨ u = 58 :: u') ∧ ((eot u' ∧ n = 3600 * h) ∨ ∃ a b t, u' = a :: b :: t ∧ dig a = true ∧ dig b = true ∧ eot t ∧ n = 3600 * h + 60 * (10 * fig a + fig b)) := by
  rcases u with _ | ⟨c, u'⟩
  rotate_left
  · unfold vCol at e
    dsimp only at e
    split at e
    · rename_i hc
      have hc : c = 58 := by simpa using hc
      subst hc
      rcases Option.or_eq_some_iff.mp e with e | ⟨_, e⟩
      · exact ⟨u', .inr rfl, vMin_some e⟩
      · exact ⟨_, .inl rfl, vMin_some e⟩
    · exact ⟨_, .inl rfl, vMin_some e⟩
  · exact ⟨_, .inl rfl, vMin_some e⟩
theorem vHr_some {u : List Nat} {n : Int} (e : vHr u = some n) : ∃ b, (u = b ∨ u = b ++ [10]) ∧ Fm b n := by
  rcases u with _ | ⟨a, u1⟩
  rotate_left
  · unfold vHr at e
    dsimp only at e
    split at e
    · rename_i ha
      have one : ∀ {u1 : List Nat}, vCol u1 (fig a) = some n → ∃ b, (a :: u1 = b ∨ a :: u1 = b ++ [10]) ∧ Fm b n := by
        intro u1 e
        obtain ⟨u', hu, ⟨he, hn⟩ | ⟨b, c, t, hu', hb, hc, ht, hn⟩⟩ := vCol_some e
        · subst hn
          rcases he with rfl | rfl <;> rcases hu with rfl | rfl
          · exact ⟨_, .inl rfl, .a1 ha⟩
          · exact ⟨_, .inl rfl, .a1c ha⟩
          · exact ⟨[a], .inr rfl, .a1 ha⟩
          · exact ⟨[a, 58], .inr rfl, .a1c ha⟩
        · subst hn hu'
          rcases ht with rfl | rfl <;> rcases hu with rfl | rfl
          · exact ⟨_, .inl rfl, .a3 ha hb hc⟩
          · exact ⟨_, .inl rfl, .a1c2 ha hb hc⟩
          · exact ⟨[a, b, c], .inr rfl, .a3 ha hb hc⟩
          · exact ⟨[a, 58, b, c], .inr rfl, .a1c2 ha hb hc⟩
      rcases u1 with _ | ⟨b, u2⟩
      rotate_left
      · unfold vHr1 at e
        dsimp only at e
        split at e
        · rename_i hb
          rcases Option.or_eq_some_iff.mp e with e | ⟨_, e⟩
          · obtain ⟨u', hu, ⟨he, hn⟩ | ⟨c, d, t, hu', hc, hd, ht, hn⟩⟩ := vCol_some e
            · subst hn
              rcases he with rfl | rfl <;> rcases hu with rfl | rfl
              · exact ⟨_, .inl rfl, .a2 ha hb⟩
              · exact ⟨_, .inl rfl, .a2c ha hb⟩
              · exact ⟨[a, b], .inr rfl, .a2 ha hb⟩
              · exact ⟨[a, b, 58], .inr rfl, .a2c ha hb⟩
            · subst hn hu'
              rcases ht with rfl | rfl <;> rcases hu with rfl | rfl
              · exact ⟨_, .inl rfl, .a4 ha hb hc hd⟩
              · exact ⟨_, .inl rfl, .a2c2 ha hb hc hd⟩
              · exact ⟨[a, b, c, d], .inr rfl, .a4 ha hb hc hd⟩
              · exact ⟨[a, b, 58, c, d], .inr rfl, .a2c2 ha hb hc hd⟩
          · exact one e
        · exact one e
      · exact one e
    · cases e
  · cases e
theorem vHr_of {b : List Nat} {n : Int} (f : Fm b n) : vHr b = some n ∧ vHr (b ++ [10]) = some n := by
  cases f with
  | a1 ha => simp [vHr, vHr1, vCol, vMin, vTwo, vFin, eot, ha, dg10]
  | a2 ha hb => simp [vHr, vHr1, vCol, vMin, vTwo, vFin, eot, ha, hb, dg10]
  | a1c ha => simp [vHr, vHr1, vCol, vMin, vTwo, vFin, eot, ha, dg58, dg10]
  | a2c ha hb => simp [vHr, vHr1, vCol, vMin, vTwo, vFin, eot, ha, hb, dg58, dg10]
  | a3 ha hb hc =>
    have h1 := dne hb
    have h2 := dne hc
    simp [vHr, vHr1, vCol, vMin, vTwo, vFin, eot, ha, hb, hc, dg58, dg10, h1, h2]
  | a4 ha hb hc hd =>
    have h1 := dne hc
    have h2 := dne hd
    simp [vHr, vHr1, vCol, vMin, vTwo, vFin, eot, ha, hb, hc, hd, dg58, dg10, h1, h2]
  | a1c2 ha hc hd => simp [vHr, vHr1, vCol, vMin, vTwo, vFin, eot, ha, hc, hd, dg58, dg10]
  | a2c2 ha hb hc hd => simp [vHr, vHr1, vCol, vMin, vTwo, vFin, eot, ha, hb, hc, hd, dg58, dg10]
end Mine
namespace Mine
open PySem
theorem spl_ne (c : Nat) : ∀ l, spl c l ≠ []
  | [] => by simp [spl]
  | a :: u => by
    unfold spl
    split
    · simp
    · split <;> simp
theorem joinL_spl (c : Nat) : ∀ l, joinL [c] (spl c l) = l
  | [] => rfl
  | a :: u => by
    have ih := joinL_spl c u
    unfold spl
    split
    · rename_i e
      subst e
      cases h : spl a u with
      | nil => exact absurd h (spl_ne a u)
      | cons p ps =>
        rw [h] at ih
        show [] ++ [a] ++ joinL [a] (p :: ps) = _
        rw [ih]; rfl
    · cases h : spl c u with
      | nil => exact absurd h (spl_ne c u)
      | cons p ps =>
        rw [h] at ih
        dsimp only
        cases ps with
        | nil => show a :: p = _; rw [show p = u from ih]
        | cons p' ps =>
          have ih' : p ++ [c] ++ joinL [c] (p' :: ps) = u := ih
          show (a :: p) ++ [c] ++ joinL [c] (p' :: ps) = _
          rw [← ih']; rfl
def rows : List (List Int) := [[1], [2], [3], [4], [1, 0], [2, 0], [1, 2], [2, 2]]
def numF (figs : List Nat) : Int := figs.foldl (fun (a : Int) (c : Nat) => 10 * a + ((c : Int) - 48)) 0
def valF (figs : List Nat) : Int := if figs.length < 3 then 3600 * numF figs else 3600 * (numF figs / 100) + 60 * (numF figs % 100)
theorem fig_lt {a : Nat} (h : dig a = true) : 0 ≤ fig a ∧ fig a ≤ 9 := by
  have := dig_le h
  unfold fig; omega
theorem len1 {p : List Nat} (h : p.length = 1) : ∃ a, p = [a] := by
  rcases p with _ | ⟨a, _ | ⟨b, p⟩⟩ <;> simp at h; exact ⟨a, rfl⟩
theorem len2 {p : List Nat} (h : p.length = 2) : ∃ a b, p = [a, b] := by
  rcases p with _ | ⟨a, _ | ⟨b, _ | ⟨c, p⟩⟩⟩ <;> simp at h; exact ⟨a, b, rfl⟩
theorem len3 {p : List Nat} (h : p.length = 3) : ∃ a b c, p = [a, b, c] := by
  rcases p with _ | ⟨a, p⟩
  · simp at h
  · obtain ⟨b, c, rfl⟩ := len2 (p := p) (by simpa using h)
    exact ⟨a, b, c, rfl⟩
theorem len4 {p : List Nat} (h : p.length = 4) : ∃ a b c d, p = [a, b, c, d] := by
  rcases p with _ | ⟨a, p⟩
  · simp at h
  · obtain ⟨b, c, d, rfl⟩ := len3 (p := p) (by simpa using h)
    exact ⟨a, b, c, d, rfl⟩
theorem one_piece {ps : List (List Nat)} {k : Nat} (h : (ps.map fun p => (p.length : Int)) = [(k : Int)]) : ∃ p, ps = [p] ∧ p.length = k := by
  rcases ps with _ | ⟨p, _ | ⟨q, r⟩⟩ <;> simp at h
  exact ⟨p, rfl, by omega⟩
theorem two_pieces {ps : List (List Nat)} {k j : Nat} (h : (ps.map fun p => (p.length : Int)) = [(k : Int), (j : Int)]) : ∃ p q, ps = [p, q] ∧ p.length = k ∧ q.length = j := by
  rcases ps with _ | ⟨p, _ | ⟨q, _ | ⟨r, s⟩⟩⟩ <;> simp at h
  exact ⟨p, q, rfl, by omega, by omega⟩
theorem rows_fm {bd : List Nat} (hr : ((spl 58 bd).map fun p => (p.length : Int)) ∈ rows) (hd : ∀ c ∈ (spl 58 bd).flatten, dig c = true) : Fm bd (valF (spl 58 bd).flatten) := by
  have hj := joinL_spl 58 bd
  generalize spl 58 bd = ps at *
  simp only [rows, List.mem_cons, List.not_mem_nil, or_false] at hr
  rcases hr with h | h | h | h | h | h | h | h
  · obtain ⟨p, rfl, hp⟩ := one_piece (k := 1) h
    obtain ⟨a, rfl⟩ := len1 hp
    subst hj
    have ha := hd a (by simp)
    have e : valF [[a]].flatten = 3600 * fig a := by simp [valF, numF, fig]
    rw [e]; exact .a1 ha
  · obtain ⟨p, rfl, hp⟩ := one_piece (k := 2) h
    obtain ⟨a, b, rfl⟩ := len2 hp
    subst hj
    have e : valF [[a, b]].flatten = 3600 * (10 * fig a + fig b) := by simp [valF, numF, fig]
    rw [e]; exact .a2 (hd a (by simp)) (hd b (by simp))
  · obtain ⟨p, rfl, hp⟩ := one_piece (k := 3) h
    obtain ⟨a, b, c, rfl⟩ := len3 hp
    subst hj
    have ha := hd a (by simp)
    have hb := hd b (by simp)
    have hc := hd c (by simp)
    have e : valF [[a, b, c]].flatten = 3600 * fig a + 60 * (10 * fig b + fig c) := by
      have := fig_lt ha; have := fig_lt hb; have := fig_lt hc
      simp [valF, numF]; unfold fig at *; omega
    rw [e]; exact .a3 ha hb hc
  · obtain ⟨p, rfl, hp⟩ := one_piece (k := 4) h
    obtain ⟨a, b, c, d, rfl⟩ := len4 hp
    subst hj
    have ha := hd a (by simp)
    have hb := hd b (by simp)
    have hc := hd c (by simp)
    have hdd := hd d (by simp)
    have e : valF [[a, b, c, d]].flatten = 3600 * (10 * fig a + fig b) + 60 * (10 * fig c + fig d) := by
      have := fig_lt ha; have := fig_lt hb; have := fig_lt hc; have := fig_lt hdd
      simp [valF, numF]; unfold fig at *; omega
    rw [e]; exact .a4 ha hb hc hdd
  · obtain ⟨p, q, rfl, hp, hq⟩ := two_pieces (k := 1) (j := 0) h
    obtain ⟨a, rfl⟩ := len1 hp
    obtain rfl := List.length_eq_zero_iff.mp hq
    subst hj
    have e : valF [[a], []].flatten = 3600 * fig a := by simp [valF, numF, fig]
    rw [e]; exact .a1c (hd a (by simp))
  · obtain ⟨p, q, rfl, hp, hq⟩ := two_pieces (k := 2) (j := 0) h
    obtain ⟨a, b, rfl⟩ := len2 hp
    obtain rfl := List.length_eq_zero_iff.mp hq
    subst hj
    have e : valF [[a, b], []].flatten = 3600 * (10 * fig a + fig b) := by simp [valF, numF, fig]
    rw [e]; exact .a2c (hd a (by simp)) (hd b (by simp))
  · obtain ⟨p, q, rfl, hp, hq⟩ := two_pieces (k := 1) (j := 2) h
    obtain ⟨a, rfl⟩ := len1 hp
    obtain ⟨c, d, rfl⟩ := len2 hq
    subst hj
    have ha := hd a (by simp)
    have hc := hd c (by simp)
    have hdd := hd d (by simp)
    have e : valF [[a], [c, d]].flatten = 3600 * fig a + 60 * (10 * fig c + fig d) := by
      have := fig_lt ha; have := fig_lt hc; have := fig_lt hdd
      simp [valF, numF]; unfold fig at *; omega
    rw [e]; exact .a1c2 ha hc hdd
  · obtain ⟨p, q, rfl, hp, hq⟩ := two_pieces (k := 2) (j := 2) h
    obtain ⟨a, b, rfl⟩ := len2 hp
    obtain ⟨c, d, rfl⟩ := len2 hq
    subst hj
    have ha := hd a (by simp)
    have hb := hd b (by simp)
    have hc := hd c (by simp)
    have hdd := hd d (by simp)
    have e : valF [[a, b], [c, d]].flatten = 3600 * (10 * fig a + fig b) + 60 * (10 * fig c + fig d) := by
      have := fig_lt ha; have := fig_lt hb; have := fig_lt hc; have := fig_lt hdd
      simp [valF, numF]; unfold fig at *; omega
    rw [e]; exact .a2c2 ha hb hc hdd
theorem fm_rows {bd : List Nat} {n : Int} (f : Fm bd n) : ((spl 58 bd).map fun p => (p.length : Int)) ∈ rows ∧ ∀ c ∈ (spl 58 bd).flatten, dig c = true := by
  cases f with
  | a1 ha => have h1 := dne ha; simp [spl, rows, h1, ha]
  | a2 ha hb => have h1 := dne ha; have h2 := dne hb; simp [spl, rows, h1, h2, ha, hb]
  | a1c ha => have h1 := dne ha; simp [spl, rows, h1, ha]
  | a2c ha hb => have h1 := dne ha; have h2 := dne hb; simp [spl, rows, h1, h2, ha, hb]
  | a3 ha hb hc => have h1 := dne ha; have h2 := dne hb; have h3 := dne hc; simp [spl, rows, h1, h2, h3, ha, hb, hc]
  | a4 ha hb hc hd => have h1 := dne ha; have h2 := dne hb; have h3 := dne hc; have h4 := dne hd; simp [spl, rows, h1, h2, h3, h4, ha, hb, hc, hd]
  | a1c2 ha hc hd => have h1 := dne ha; have h3 := dne hc; have h4 := dne hd; simp [spl, rows, h1, h3, h4, ha, hc, hd]
  | a2c2 ha hb hc hd => have h1 := dne ha; have h2 := dne hb; have h3 := dne hc; have h4 := dne hd; simp [spl, rows, h1, h2, h3, h4, ha, hb, hc, hd]
end Mine
namespace Mine
open PySem
theorem chop_or (l : List Nat) : (chop l = l ∧ l.drop (l.length - 1) ≠ [10]) ∨ l = chop l ++ [10] := by
  unfold chop
  split
  · rename_i h
    right
    conv => lhs; rw [← List.take_append_drop (l.length - 1) l]
    rw [h]
  · rename_i h; exact .inl ⟨rfl, h⟩
theorem chop_app (b : List Nat) : chop (b ++ [10]) = b := by
  unfold chop
  simp
theorem fm_last {b : List Nat} {n : Int} (f : Fm b n) : ∃ a x t, b = a :: t ∧ dig a = true ∧ x ≠ 10 ∧ ∀ p : List Nat, (p ++ b).drop ((p ++ b).length - 1) = [x] := by
  cases f with
  | @a1 a ha => exact ⟨a, a, _, rfl, ha, (dne ha).2.1, fun p => by rw [show p ++ [a] = p ++ [a] from rfl]; simp⟩
  | @a2 a b ha hb => exact ⟨a, b, _, rfl, ha, (dne hb).2.1, fun p => by rw [show p ++ [a, b] = (p ++ [a]) ++ [b] by simp]; simp⟩
  | @a1c a ha => exact ⟨a, 58, _, rfl, ha, by decide, fun p => by rw [show p ++ [a, 58] = (p ++ [a]) ++ [58] by simp]; simp⟩
  | @a2c a b ha hb => exact ⟨a, 58, _, rfl, ha, by decide, fun p => by rw [show p ++ [a, b, 58] = (p ++ [a, b]) ++ [58] by simp]; simp⟩
  | @a3 a b c ha hb hc => exact ⟨a, c, _, rfl, ha, (dne hc).2.1, fun p => by rw [show p ++ [a, b, c] = (p ++ [a, b]) ++ [c] by simp]; simp⟩
  | @a4 a b c d ha hb hc hd => exact ⟨a, d, _, rfl, ha, (dne hd).2.1, fun p => by rw [show p ++ [a, b, c, d] = (p ++ [a, b, c]) ++ [d] by simp]; simp⟩
  | @a1c2 a c d ha hc hd => exact ⟨a, d, _, rfl, ha, (dne hd).2.1, fun p => by rw [show p ++ [a, 58, c, d] = (p ++ [a, 58, c]) ++ [d] by simp]; simp⟩
  | @a2c2 a b c d ha hb hc hd => exact ⟨a, d, _, rfl, ha, (dne hd).2.1, fun p => by rw [show p ++ [a, b, 58, c, d] = (p ++ [a, b, 58, c]) ++ [d] by simp]; simp⟩
theorem chop_fm {p b : List Nat} {n : Int} (f : Fm b n) : chop (p ++ b) = p ++ b := by
  obtain ⟨a, x, t, _, _, hx, hl⟩ := fm_last f
  unfold chop
  rw [hl p, if_neg (by simpa using hx)]
theorem vHr_iff {u : List Nat} {n : Int} : vHr u = some n ↔ ∃ b, (u = b ∨ u = b ++ [10]) ∧ Fm b n := by
  constructor
  · exact vHr_some
  · rintro ⟨b, rfl | rfl, f⟩
    · exact (vHr_of f).1
    · exact (vHr_of f).2
theorem unsg_dig {a : Nat} {t : List Nat} (h : dig a = true) : unsg (a :: t) = a :: t := by
  have := dne h
  unfold unsg
  rw [if_neg (by simp; omega)]
theorem v_some {l : List Nat} {n : Int} (e : vAll l = some n) : ∃ m, Fm (unsg (chop l)) m ∧ n = if l.take 1 = [45] then -m else m := by
  unfold vAll at e
  rcases Option.or_eq_some_iff.mp e with e | ⟨_, e⟩
  · rcases l with _ | ⟨c, u⟩
    · cases e
    · unfold vSg at e
      dsimp only at e
      split at e
      · rename_i hs
        obtain ⟨m, hm, en⟩ := Option.map_eq_some_iff.mp e
        obtain ⟨b, hu, f⟩ := vHr_iff.mp hm
        have hu1 : unsg (c :: b) = b := by
          unfold unsg
          rw [if_pos (by unfold sgn at hs; simp at hs ⊢; omega)]; rfl
        refine ⟨m, ?_, by rw [← en]; simp⟩
        rcases hu with rfl | rfl
        · rw [show c :: u = [c] ++ u from rfl, chop_fm f]
          rw [show [c] ++ u = c :: u from rfl, hu1]; exact f
        · rw [show c :: (b ++ [10]) = (c :: b) ++ [10] from rfl, chop_app, hu1]; exact f
      · cases e
  · obtain ⟨b, hu, f⟩ := vHr_iff.mp e
    obtain ⟨a, x, t, rfl, ha, _, _⟩ := fm_last f
    have h45 : ¬ (l.take 1 = [45]) := by
      have := dne ha
      rcases hu with rfl | rfl <;> simp <;> omega
    refine ⟨n, ?_, by rw [if_neg h45]⟩
    rcases hu with rfl | rfl
    · rw [show (a :: t) = [] ++ (a :: t) from rfl, chop_fm f, List.nil_append, unsg_dig ha]; exact f
    · rw [chop_app, unsg_dig ha]; exact f
theorem v_of {l : List Nat} {m : Int} (f : Fm (unsg (chop l)) m) : vAll l = some (if l.take 1 = [45] then -m else m) := by
  have hc : ∃ b, unsg (chop l) = b ∧ (chop l = b ∨ ∃ c, sgn c = true ∧ chop l = c :: b) := by
    refine ⟨_, rfl, ?_⟩
    unfold unsg
    split
    · rename_i h
      cases hcl : chop l with
      | nil => rw [hcl] at h; simp at h
      | cons c b => rw [hcl] at h; right; exact ⟨c, by simp at h; unfold sgn; simp; omega, rfl⟩
    · exact .inl rfl
  obtain ⟨b, hb, hc⟩ := hc
  rw [hb] at f
  have hl : l = chop l ∨ l = chop l ++ [10] := by
    rcases chop_or l with ⟨h, _⟩ | h
    · exact .inl h.symm
    · exact .inr h
  obtain ⟨a, x, t, hbt, ha, _, _⟩ := fm_last f
  have hd := dne ha
  rcases hc with hc | ⟨c, hs, hc⟩
  · rw [hc] at hl
    have hv : vHr l = some m := vHr_iff.mpr ⟨b, hl, f⟩
    have hsg : vSg l = none := by
      rw [hbt] at hl
      have : ∃ t', l = a :: t' := by rcases hl with rfl | rfl; exact ⟨_, rfl⟩; exact ⟨_, rfl⟩
      obtain ⟨t', rfl⟩ := this
      unfold vSg
      dsimp only
      rw [if_neg (by unfold sgn; simp; omega)]
    have h45 : ¬ (l.take 1 = [45]) := by
      rw [hbt] at hl
      rcases hl with rfl | rfl <;> simp <;> omega
    unfold vAll
    rw [hsg, hv, if_neg h45]; rfl
  · rw [hc] at hl
    have : ∃ u, l = c :: u ∧ (u = b ∨ u = b ++ [10]) := by
      rcases hl with rfl | rfl
      · exact ⟨_, rfl, .inl rfl⟩
      · exact ⟨_, rfl, .inr rfl⟩
    obtain ⟨u, rfl, hu⟩ := this
    have hv : vHr u = some m := vHr_iff.mpr ⟨b, hu, f⟩
    unfold vAll vSg
    dsimp only
    rw [if_pos hs, hv]
    simp
/-- the law's own reckoning -/
def lawV (l : List Nat) : Option Int :=
  if ((spl 58 (unsg (chop l))).map fun p => (p.length : Int)) ∈ rows then
    if ∀ c ∈ (spl 58 (unsg (chop l))).flatten, dig c = true then some (if l.take 1 = [45] then -valF (spl 58 (unsg (chop l))).flatten else valF (spl 58 (unsg (chop l))).flatten) else none
  else none
theorem lawV_eq (l : List Nat) : lawV l = vAll l := by
  unfold lawV
  split
  · rename_i h1
    split
    · rename_i h2
      exact (v_of (rows_fm h1 h2)).symm
    · rename_i h2
      cases h : vAll l with
      | none => rfl
      | some n =>
        obtain ⟨m, f, _⟩ := v_some h
        exact absurd (fm_rows f).2 h2
  · rename_i h1
    cases h : vAll l with
    | none => rfl
    | some n =>
      obtain ⟨m, f, _⟩ := v_some h
      exact absurd (fm_rows f).1 h1
end Mine
namespace Mine
open PySem PySem.W PySem.Spec PySem.Calls PyProof.Rows
theorem le_sum_mem {p : List Nat} : ∀ {ps : List (List Nat)}, p ∈ ps → p.length ≤ (ps.map List.length).sum
  | q :: ps, h => by
    rw [List.map_cons, List.sum_cons]
    rcases List.mem_cons.mp h with rfl | h
    · omega
    · have := le_sum_mem h; omega
def figs10 : List Nat := [48, 49, 50, 51, 52, 53, 54, 55, 56, 57]
theorem dig_iff (c : Nat) : dig c = true ↔ c ∈ figs10 := by
  unfold dig Sre.isDigit figs10
  simp
  omega
theorem notfigs (l : List Nat) : (l.filterMap fun c => if c ∈ figs10 then none else some (AV.str (tx [c]))) = ((l.filter fun c => !dig c).map fun c => [c]).map fun l => AV.str (tx l) := by
  induction l with
  | nil => rfl
  | cons c l ih =>
    by_cases h : c ∈ figs10
    · have hd := (dig_iff c).mpr h
      simp [h, hd, ih]
    · have hd : dig c = false := by
        cases hh : dig c with
        | true => exact absurd ((dig_iff c).mp hh) h
        | false => rfl
      simp [h, hd, ih]
theorem rows_sum {ps : List (List Nat)} (h : (ps.map fun p => (p.length : Int)) ∈ rows) : 1 ≤ ps.flatten.length ∧ ps.flatten.length ≤ 4 := by
  have e : ∀ ps : List (List Nat), ((ps.flatten.length : Nat) : Int) = (ps.map fun p => (p.length : Int)).sum := by
    intro ps
    induction ps with
    | nil => rfl
    | cons p ps ih => simp [ih] at *; omega
  have e := e ps
  generalize (ps.map fun p => (p.length : Int)) = q at *
  generalize ps.flatten.length = k at *
  simp only [rows, List.mem_cons, List.not_mem_nil, or_false] at h
  rcases h with rfl | rfl | rfl | rfl | rfl | rfl | rfl | rfl <;> simp at e <;> omega
theorem take1_iff {l : List Nat} (h : 1 ≤ l.length) : l.take 1 = [45] ↔ [l.getD (Int.toNat 0) 0] = [45] := by
  cases l with
  | nil => simp at h
  | cons a l => simp
def parts12 : List (List Nat) := [[43], [45], [58], [10], [90], [71, 77, 84], [85, 84, 67], [85, 84], [122], [1635], [32], [69, 83, 84]]
theorem get_map12 {k : Nat} (h : k < parts12.length) : (parts12.map fun l => AV.str (tx l))[k]? = some (.str (tx (parts12.getD k []))) := by
  rw [List.getElem?_map]
  simp [h]
theorem parts12_ok {k : Nat} (h : k < parts12.length) : (parts12.getD k []).length ≤ 3 ∧ ∀ c ∈ parts12.getD k [], c < 0x110000 := by
  have hm : parts12.getD k [] ∈ parts12 := by
    simp [List.getD, h]
  revert hm
  generalize parts12.getD k [] = p
  intro hm
  simp only [parts12, List.mem_cons, List.not_mem_nil, or_false] at hm
  rcases hm with rfl | rfl | rfl | rfl | rfl | rfl | rfl | rfl | rfl | rfl | rfl | rfl <;> decide
theorem pySl_map {α β : Type} (g : α → β) (xs : List α) (a b : Option Int) : pySl (xs.map g) a b = (pySl xs a b).map g := by
  unfold pySl
  rw [List.length_map, List.map_take, List.map_drop]
theorem pySl_mem {α : Type} {xs : List α} {a b : Option Int} {x : α} (h : x ∈ pySl xs a b) : x ∈ xs := by
  unfold pySl at h
  exact List.mem_of_mem_drop (List.mem_of_mem_take h)
theorem sum_le3 : ∀ {ps : List (List Nat)}, (∀ p ∈ ps, p.length ≤ 3) → (ps.map List.length).sum ≤ 3 * ps.length
  | [], _ => by simp
  | p :: ps, h => by
    have := sum_le3 fun q hq => h q (.tail _ hq)
    have := h p (.head _)
    simp; omega
end Mine
namespace Mine
open PySem
def sub (sg t : List Nat) : Bool := t.all fun c => decide (c ∈ sg)
def figT (sg : List Nat) : List (List Nat) := (figs10.map fun c => [c]).filter (sub sg)
def twosT (sg : List Nat) : List (List Nat) := (figT sg).flatMap fun a => (figT sg).map fun b => a ++ b
def heads5 (sg : List Nat) : List (List Nat) := [[], [43], [45]].filter (sub sg)
def colons5 (sg : List Nat) : List (List Nat) := [[], [58]].filter (sub sg)
def ends5 (sg : List Nat) : List (List Nat) := [[], [10]].filter (sub sg)
def size5 (h m : List Nat) : Int := 60 * (60 * numF h + numF (48 :: m))
def key5 (hd h c m e : List Nat) : List Nat := hd ++ h ++ c ++ m ++ e
def val5 (hd h m : List Nat) : Int := if hd = [45] then -size5 h m else size5 h m
theorem mem_figT {sg t : List Nat} : t ∈ figT sg ↔ ∃ c, t = [c] ∧ dig c = true ∧ c ∈ sg := by
  unfold figT sub
  rw [List.mem_filter, List.mem_map]
  constructor
  · rintro ⟨⟨c, hc, rfl⟩, h⟩
    exact ⟨c, rfl, (dig_iff c).mpr hc, by simpa using h⟩
  · rintro ⟨c, rfl, hd, hs⟩
    exact ⟨⟨c, (dig_iff c).mp hd, rfl⟩, by simpa using hs⟩
theorem mem_twosT {sg t : List Nat} : t ∈ twosT sg ↔ ∃ a b, t = [a, b] ∧ dig a = true ∧ dig b = true ∧ a ∈ sg ∧ b ∈ sg := by
  unfold twosT
  rw [List.mem_flatMap]
  constructor
  · rintro ⟨x, hx, h⟩
    obtain ⟨y, hy, rfl⟩ := List.mem_map.mp h
    obtain ⟨a, rfl, ha, ha'⟩ := mem_figT.mp hx
    obtain ⟨b, rfl, hb, hb'⟩ := mem_figT.mp hy
    exact ⟨a, b, rfl, ha, hb, ha', hb'⟩
  · rintro ⟨a, b, rfl, ha, hb, ha', hb'⟩
    exact ⟨[a], mem_figT.mpr ⟨a, rfl, ha, ha'⟩, List.mem_map.mpr ⟨[b], mem_figT.mpr ⟨b, rfl, hb, hb'⟩, rfl⟩⟩
theorem figT_len (sg : List Nat) (h : sg.length = 4) : (figT sg).length ≤ 10 := by
  unfold figT
  exact Nat.le_trans (List.length_filter_le _ _) (by decide)
theorem twosT_len (sg : List Nat) (h : sg.length = 4) : (twosT sg).length ≤ 100 := by
  unfold twosT
  have := figT_len sg h
  have key : ∀ l : List (List Nat), (l.flatMap fun a => (figT sg).map fun b => a ++ b).length = l.length * (figT sg).length := by
    intro l
    induction l with
    | nil => simp
    | cons x l ih => rw [List.flatMap_cons, List.length_append, ih, List.length_map, List.length_cons, Nat.succ_mul]; omega
  rw [key]
  exact Nat.mul_le_mul this this
theorem heads5_mem {sg t : List Nat} (h : t ∈ heads5 sg) : t = [] ∨ t = [43] ∨ t = [45] := by
  have := (List.mem_filter.mp h).1
  simpa using this
theorem colons5_mem {sg t : List Nat} (h : t ∈ colons5 sg) : t = [] ∨ t = [58] := by
  have := (List.mem_filter.mp h).1
  simpa using this
theorem ends5_mem {sg t : List Nat} (h : t ∈ ends5 sg) : t = [] ∨ t = [10] := by
  have := (List.mem_filter.mp h).1
  simpa using this
theorem fm5 {sg h c m : List Nat} (hh : h ∈ figT sg ++ twosT sg) (hc : c = [] ∨ c = [58]) (hm : m ∈ [] :: twosT sg) : Fm (h ++ c ++ m) (size5 h m) := by
  have e0 : ∀ a : Nat, (a : Int) - 48 = fig a := fun _ => rfl
  rcases List.mem_append.mp hh with hh | hh
  · obtain ⟨a, rfl, ha, _⟩ := mem_figT.mp hh
    rcases List.mem_cons.mp hm with rfl | hm
    · have e : size5 [a] [] = 3600 * fig a := by simp [size5, numF, fig]; omega
      rw [e]
      rcases hc with rfl | rfl
      · exact .a1 ha
      · exact .a1c ha
    · obtain ⟨x, y, rfl, hx, hy, _⟩ := mem_twosT.mp hm
      have e : size5 [a] [x, y] = 3600 * fig a + 60 * (10 * fig x + fig y) := by simp [size5, numF, fig]; omega
      rw [e]
      rcases hc with rfl | rfl
      · exact .a3 ha hx hy
      · exact .a1c2 ha hx hy
  · obtain ⟨a, b, rfl, ha, hb, _⟩ := mem_twosT.mp hh
    rcases List.mem_cons.mp hm with rfl | hm
    · have e : size5 [a, b] [] = 3600 * (10 * fig a + fig b) := by simp [size5, numF, fig]; omega
      rw [e]
      rcases hc with rfl | rfl
      · exact .a2 ha hb
      · exact .a2c ha hb
    · obtain ⟨x, y, rfl, hx, hy, _⟩ := mem_twosT.mp hm
      have e : size5 [a, b] [x, y] = 3600 * (10 * fig a + fig b) + 60 * (10 * fig x + fig y) := by simp [size5, numF, fig]; omega
      rw [e]
      rcases hc with rfl | rfl
      · exact .a4 ha hb hx hy
      · exact .a2c2 ha hb hx hy
theorem not_names {t : List Nat} {a : Nat} (ha : dig a = true) (hm : a ∈ t) : t ∉ tzNames := by
  intro h
  have := dig_le ha
  simp only [tzNames, List.mem_cons, List.not_mem_nil, or_false] at h
  rcases h with rfl | rfl | rfl | rfl <;> simp at hm <;> omega
theorem val_of {sg hd h c m e : List Nat} (hhd : hd ∈ heads5 sg) (hh : h ∈ figT sg ++ twosT sg) (hc : c ∈ colons5 sg) (hm : m ∈ [] :: twosT sg) (he : e ∈ ends5 sg) : tzVal (key5 hd h c m e) = some (val5 hd h m) := by
  have f := fm5 hh (colons5_mem hc) hm
  generalize hb : h ++ c ++ m = b at f
  obtain ⟨a, x, t, rfl, ha, _, _⟩ := fm_last f
  have hk : key5 hd h c m e = hd ++ (a :: t) ++ e := by
    unfold key5
    rw [← hb]; simp
  rw [hk]
  have hn : hd ++ (a :: t) ++ e ∉ tzNames := not_names ha (by simp)
  unfold tzVal
  rw [if_neg hn]
  have hu : unsg (hd ++ (a :: t)) = a :: t := by
    rcases heads5_mem hhd with rfl | rfl | rfl
    · exact unsg_dig ha
    · rfl
    · rfl
  have hch : chop (hd ++ (a :: t) ++ e) = hd ++ (a :: t) := by
    rcases ends5_mem he with rfl | rfl
    · rw [List.append_nil]; exact chop_fm f
    · exact chop_app _
  have := v_of (l := hd ++ (a :: t) ++ e) (m := size5 h m) (by rw [hch, hu]; exact f)
  rw [this]
  congr 1
  unfold val5
  have hd1 := dne ha
  rcases heads5_mem hhd with rfl | rfl | rfl
  · rw [if_neg (by simp; omega), if_neg (by simp)]
  · rw [if_neg (by simp), if_neg (by simp)]
  · rw [if_pos (by simp), if_pos rfl]
theorem of_val {sg t : List Nat} {n : Int} (ht : ∀ c ∈ t, c ∈ sg) (hv : tzVal t = some n) : t ∈ tzNames ∨ ∃ hd h c m e, hd ∈ heads5 sg ∧ h ∈ figT sg ++ twosT sg ∧ c ∈ colons5 sg ∧ m ∈ [] :: twosT sg ∧ e ∈ ends5 sg ∧ t = key5 hd h c m e := by
  unfold tzVal at hv
  split at hv
  · rename_i h; exact .inl h
  · right
    obtain ⟨v, f, _⟩ := v_some hv
    have hd : ∃ hd, hd ∈ heads5 sg ∧ chop t = hd ++ unsg (chop t) := by
      have hsub : ∀ c ∈ chop t, c ∈ sg := fun c hc => ht c (by
        unfold chop at hc
        split at hc
        · exact List.mem_of_mem_take hc
        · exact hc)
      generalize chop t = u at hsub
      unfold unsg
      split
      · rename_i hs
        rcases u with _ | ⟨c, u⟩
        · simp at hs
        · have hc := hsub c (.head _)
          simp at hs
          rcases hs with rfl | rfl
          · exact ⟨[43], by simp [heads5, sub, hc], rfl⟩
          · exact ⟨[45], by simp [heads5, sub, hc], rfl⟩
      · exact ⟨[], by simp [heads5, sub], rfl⟩
    have he : ∃ e, e ∈ ends5 sg ∧ t = chop t ++ e := by
      rcases chop_or t with ⟨h, _⟩ | h
      · exact ⟨[], by simp [ends5, sub], by rw [h]; simp⟩
      · exact ⟨[10], by
          have : 10 ∈ sg := ht 10 (by rw [h]; simp)
          simp [ends5, sub, this], h⟩
    obtain ⟨hd, hhd, e1⟩ := hd
    obtain ⟨e, hhe, e2⟩ := he
    have hb : ∃ h c m, h ∈ figT sg ++ twosT sg ∧ c ∈ colons5 sg ∧ m ∈ [] :: twosT sg ∧ unsg (chop t) = h ++ c ++ m := by
      have hs : ∀ c ∈ unsg (chop t), c ∈ sg := fun c hc => ht c (by rw [e2, e1]; simp [hc])
      generalize unsg (chop t) = b at f hs
      have c0 : ([] : List Nat) ∈ colons5 sg := by simp [colons5, sub]
      have one : ∀ a, dig a = true → a ∈ sg → [a] ∈ figT sg ++ twosT sg := fun a h1 h2 => List.mem_append_left _ (mem_figT.mpr ⟨a, rfl, h1, h2⟩)
      have two : ∀ a b, dig a = true → dig b = true → a ∈ sg → b ∈ sg → [a, b] ∈ twosT sg := fun a b h1 h2 h3 h4 => mem_twosT.mpr ⟨a, b, rfl, h1, h2, h3, h4⟩
      have c1 : 58 ∈ sg → [58] ∈ colons5 sg := fun h => by simp [colons5, sub, h]
      cases f with
      | @a1 a ha => exact ⟨[a], [], [], one a ha (hs a (by simp)), c0, .head _, rfl⟩
      | @a2 a b ha hb => exact ⟨[a, b], [], [], List.mem_append_right _ (two a b ha hb (hs a (by simp)) (hs b (by simp))), c0, .head _, rfl⟩
      | @a1c a ha => exact ⟨[a], [58], [], one a ha (hs a (by simp)), c1 (hs 58 (by simp)), .head _, rfl⟩
      | @a2c a b ha hb => exact ⟨[a, b], [58], [], List.mem_append_right _ (two a b ha hb (hs a (by simp)) (hs b (by simp))), c1 (hs 58 (by simp)), .head _, rfl⟩
      | @a3 a b c ha hb hc => exact ⟨[a], [], [b, c], one a ha (hs a (by simp)), c0, .tail _ (two b c hb hc (hs b (by simp)) (hs c (by simp))), rfl⟩
      | @a4 a b c d ha hb hc hd => exact ⟨[a, b], [], [c, d], List.mem_append_right _ (two a b ha hb (hs a (by simp)) (hs b (by simp))), c0, .tail _ (two c d hc hd (hs c (by simp)) (hs d (by simp))), rfl⟩
      | @a1c2 a c d ha hc hd => exact ⟨[a], [58], [c, d], one a ha (hs a (by simp)), c1 (hs 58 (by simp)), .tail _ (two c d hc hd (hs c (by simp)) (hs d (by simp))), rfl⟩
      | @a2c2 a b c d ha hb hc hd => exact ⟨[a, b], [58], [c, d], List.mem_append_right _ (two a b ha hb (hs a (by simp)) (hs b (by simp))), c1 (hs 58 (by simp)), .tail _ (two c d hc hd (hs c (by simp)) (hs d (by simp))), rfl⟩
    obtain ⟨h, c, m, h1, h2, h3, e3⟩ := hb
    refine ⟨hd, h, c, m, e, hhd, h1, h2, h3, hhe, ?_⟩
    unfold key5
    rw [e2, e1, e3]; simp
/-- the mapping so far: its values are right, the keys of S are in it -/
structure Inv5 (kvs : List (List Nat × AV)) (S : List (List Nat)) (n : Nat) : Prop where
  val : ∀ k v, lkA kvs k = some v → ∃ n, v = .int n ∧ tzVal k = some n
  key : ∀ k ∈ S, (lkA kvs k).isSome = true
  len : kvs.length ≤ n
theorem Inv5.put {kvs S n k v} (I : Inv5 kvs S n) (h : tzVal k = some v) : Inv5 (putA kvs k (.int v)) (S ++ [k]) (n + 1) := by
  refine ⟨fun j u hj => ?_, fun j hj => ?_, Nat.le_trans (putA_len _ _ _) (Nat.succ_le_succ I.len)⟩
  · rw [lkA_put] at hj
    split at hj
    · rename_i e; subst e; cases hj; exact ⟨v, rfl, h⟩
    · exact I.val j u hj
  · rw [lkA_put]
    split
    · rfl
    · rename_i e
      rcases List.mem_append.mp hj with hj | hj
      · exact I.key j hj
      · exact absurd (List.mem_singleton.mp hj).symm e
theorem Inv5.mono {kvs S S' n n'} (I : Inv5 kvs S n) (h : ∀ k ∈ S', k ∈ S) (hn : n ≤ n') : Inv5 kvs S' n' := ⟨I.val, fun k hk => I.key k (h k hk), Nat.le_trans I.len hn⟩
def all5 (sg : List Nat) : List (List Nat) := tzNames ++ (figT sg ++ twosT sg).flatMap fun h => ([] :: twosT sg).flatMap fun m => (colons5 sg).flatMap fun c => (ends5 sg).flatMap fun e => (heads5 sg).map fun hd => key5 hd h c m e
theorem Inv5.get {kvs sg n t} (I : Inv5 kvs (all5 sg) n) (ht : ∀ c ∈ t, c ∈ sg) : (lkA kvs t).getD .none = optAV (tzVal t) := by
  cases hl : lkA kvs t with
  | some v =>
    obtain ⟨n, rfl, h⟩ := I.val t v hl
    rw [h]; rfl
  | none =>
    cases hv : tzVal t with
    | none => rfl
    | some n =>
      have : t ∈ all5 sg := by
        unfold all5
        rcases of_val ht hv with h | ⟨hd, h, c, m, e, h1, h2, h3, h4, h5, rfl⟩
        · exact List.mem_append_left _ h
        · refine List.mem_append_right _ (List.mem_flatMap.mpr ⟨h, h2, List.mem_flatMap.mpr ⟨m, h4, List.mem_flatMap.mpr ⟨c, h3, List.mem_flatMap.mpr ⟨e, h5, List.mem_map.mpr ⟨hd, h1, rfl⟩⟩⟩⟩⟩)
      have := I.key t this
      rw [hl] at this; cases this
end Mine
namespace Mine
open PySem
theorem fm_sub (sg : List Nat) (ts : List (List Nat)) : (ts.filterMap fun t => if sub sg t = true then some (AV.str (tx t)) else none) = (ts.filter (sub sg)).map fun t => AV.str (tx t) := by
  induction ts with
  | nil => rfl
  | cons t ts ih =>
    by_cases h : sub sg t = true
    · simp [h, ih]
    · simp [h, ih]
theorem fm_figs (sg : List Nat) : (figs10.filterMap fun c => if c ∈ sg then some (AV.str (tx [c])) else none) = (figT sg).map fun t => AV.str (tx t) := by
  have : (figs10.filterMap fun c => if c ∈ sg then some (AV.str (tx [c])) else none) = ((figs10.map fun c => [c]).filterMap fun t => if sub sg t = true then some (AV.str (tx t)) else none) := by
    rw [List.filterMap_map]
    congr 1
    funext c
    simp [sub]
  rw [this, fm_sub]; rfl
theorem sub_nil (sg : List Nat) : sub sg [] = true := rfl
theorem sub_one (sg : List Nat) (c : Nat) : sub sg [c] = decide (c ∈ sg) := by simp [sub]
theorem inv5_0 : Inv5 (putAll [] [([71, 77, 84], .int 0), ([85, 84, 67], .int 0), ([85, 84], .int 0), ([90], .int 0)]) tzNames 4 := by
  have z : Inv5 [] [] 0 := ⟨fun k v h => by simp [lkA] at h, by simp, by simp⟩
  have hz : ∀ t ∈ tzNames, tzVal t = some 0 := fun t ht => by unfold tzVal; rw [if_pos ht]
  exact (((z.put (hz [71, 77, 84] (by decide))).put (hz [85, 84, 67] (by decide))).put (hz [85, 84] (by decide))).put (hz [90] (by decide))
theorem nums_of {sg t : List Nat} (h : t ∈ figT sg ++ twosT sg) : t ≠ [] ∧ t.length ≤ 2 ∧ ∀ c ∈ t, 48 ≤ c ∧ c ≤ 57 := by
  rcases List.mem_append.mp h with h | h
  · obtain ⟨a, rfl, ha, _⟩ := mem_figT.mp h
    exact ⟨by simp, by simp, fun c hc => by rw [List.mem_singleton.mp hc]; exact dig_le ha⟩
  · obtain ⟨a, b, rfl, ha, hb, _⟩ := mem_twosT.mp h
    refine ⟨by simp, by simp, fun c hc => ?_⟩
    rcases List.mem_cons.mp hc with rfl | hc
    · exact dig_le ha
    · rw [List.mem_singleton.mp hc]; exact dig_le hb
theorem nums_of2 {sg t : List Nat} (h : t ∈ [] :: twosT sg) : t.length ≤ 2 ∧ ∀ c ∈ t, 48 ≤ c ∧ c ≤ 57 := by
  rcases List.mem_cons.mp h with rfl | h
  · simp
  · exact ⟨(nums_of (List.mem_append_right _ h)).2.1, (nums_of (List.mem_append_right _ h)).2.2⟩
theorem heads5_len (sg : List Nat) : (heads5 sg).length ≤ 3 := List.length_filter_le _ _
theorem colons5_len (sg : List Nat) : (colons5 sg).length ≤ 2 := List.length_filter_le _ _
theorem ends5_len (sg : List Nat) : (ends5 sg).length ≤ 2 := List.length_filter_le _ _
end Mine
namespace Mine
open PySem PySem.W PySem.Spec PySem.Calls PyProof.Rows
local macro_rules | `(tactic| walk_at "lk") => `(tactic| first | (with_reducible exact lk_here) | ((with_reducible refine' lk_there ?hne ?hrr); (case hne => decide); (case hrr => walk_at "lk")))
local macro_rules | `(tactic| walk_at "rs") => `(tactic| first | (with_reducible exact rs_here) | (with_reducible exact rs_nil) | ((with_reducible refine' rs_there ?hne ?hrr); (case hne => decide); (case hrr => walk_at "rs")))
local macro_rules | `(tactic| walk_at "kd") => `(tactic| with_reducible assumption)
local macro_rules | `(tactic| walk_at "kx") => `(tactic| first | with_reducible assumption | with_unfolding_all rfl)
local macro_rules | `(tactic| walk_at "ur") => `(tactic| with_unfolding_all rfl)
local macro_rules | `(tactic| walk_at "iur") => `(tactic| (intros; with_unfolding_all rfl))
local macro_rules | `(tactic| walk_at "pk") => `(tactic| first | with_reducible exact Pick.head | ((with_reducible refine' Pick.tail ?hrr); (case hrr => walk_at "pk")))
local macro_rules | `(tactic| walk_at "mm") => `(tactic| first | with_reducible assumption | with_reducible exact List.mem_cons_self | ((with_reducible refine' List.mem_cons_of_mem _ ?hrr); (case hrr => walk_at "mm")))
local macro_rules | `(tactic| walk_at "sb") => `(tactic| first | with_reducible exact SubS.refl | with_reducible assumption | with_reducible exact SubS.nil | ((fail_if_success (with_reducible show SubS (_ :: _) _)); (with_reducible refine SubS.drop ?_); walk_at "sb") | ((with_reducible refine' SubS.pick ?hpk ?hrr); (case hpk => walk_at "pk"); (case hrr => walk_at "sb")))
local macro_rules | `(tactic| walk_at "ls") => `(tactic| first | with_reducible exact LocSub.nil | ((with_reducible refine' LocSub.cons ?hlc ?hrr); (case hlc => walk_at "lk"); (case hrr => walk_at "ls")))
local macro_rules | `(tactic| walk_at "sz") => `(tactic| first | assumption | omega | (simp only [List.length_append, List.length_cons, List.length_nil, List.length_map, List.length_take, List.length_drop, List.length_replicate]; omega) | (rw [sizeLine_eq]; first | omega | (simp only [List.length_append, List.length_cons, List.length_nil, List.length_map, List.length_take, List.length_drop, List.length_replicate]; omega)))
local macro_rules | `(tactic| walk_at "jz") => `(tactic| first | assumption | (simp only [List.length_cons, List.length_nil, Nat.mul_zero, Nat.add_zero, Nat.mul_one]; omega))
local macro_rules | `(tactic| walk_at "bb") => `(tactic| with_reducible first | exact bb_len | exact bb_range | exact bb_str | exact bb_int | exact bb_max | exact bb_abs | exact bb_min | exact bb_sum | exact bb_sorted | exact bb_chr | exact bb_divmod | exact bb_isinstance | exact bb_bool)
local macro_rules | `(tactic| walk_at "nm") => `(tactic| first
  | ((with_reducible refine' xn_local ?hk ?hx ?hl ?_ ?hd); (case hk => walk_at "kd"); (case hx => walk_at "kd"); (case hl => walk_at "lk"); (case hd => decide))
  | ((with_reducible refine' xn_cell ?hk ?hx ?hc ?hm ?_ ?hd); (case hk => walk_at "kd"); (case hx => walk_at "kd"); (case hc => exact rfl); (case hm => walk_at "mm"); (case hd => decide))
  | ((with_reducible refine' xn_globR ?G ?hk ?hx ?e ?_ ?hd); (case G => walk_at "kd"); (case hk => walk_at "kd"); (case hx => walk_at "kd"); (case e => walk_at "kd"); (case hd => decide))
  | ((with_reducible refine' xn_builtV ?G ?hk ?hx ?e ?hv ?_ ?hd ?hn); (case G => walk_at "kd"); (case hk => walk_at "kd"); (case hx => walk_at "kd"); (case e => walk_at "kd"); (case hv => walk_at "bb"); (case hd => decide); (case hn => decide))
  | ((with_reducible refine' kn_local ?hk ?hx ?hm ?hl ?_ ?hd); (case hk => exact rfl); (case hx => exact rfl); (case hm => walk_at "mm"); (case hl => walk_at "lk"); (case hd => decide))
  | ((with_reducible refine' kn_cell ?hk ?hx ?hk2 ?hx2 ?hc ?hm ?_ ?hd); (case hk => exact rfl); (case hx => exact rfl); (case hk2 => walk_at "kd"); (case hx2 => walk_at "kd"); (case hc => exact rfl); (case hm => walk_at "mm"); (case hd => decide))
  | ((with_reducible refine' kn_globR ?G ?hg ?hk ?hx ?e ?_ ?hd); (case G => walk_at "kd"); (case hg => exact rfl); (case hk => exact rfl); (case hx => exact rfl); (case e => walk_at "kd"); (case hd => decide))
  | ((with_reducible refine' kn_builtV ?G ?hg ?hb ?hk ?hx ?e ?hv ?_ ?hd ?hn); (case G => walk_at "kd"); (case hg => exact rfl); (case hb => exact rfl); (case hk => exact rfl); (case hx => exact rfl); (case e => walk_at "kd"); (case hv => walk_at "bb"); (case hd => decide); (case hn => decide)))
local macro_rules | `(tactic| walk_at "st") => `(tactic| first
  | ((with_reducible refine' xs_local ?hk ?hx ?hr ?_); (case hk => walk_at "kd"); (case hx => walk_at "kd"); (case hr => walk_at "rs"))
  | ((with_reducible refine' xs_cellP ?hk ?hx ?hc ?hp ?_); (case hk => walk_at "kd"); (case hx => walk_at "kd"); (case hc => exact rfl); (case hp => walk_at "pk"))
  | ((with_reducible refine' ks_local ?hk ?hx ?hp ?hr ?_); (case hk => exact rfl); (case hx => exact rfl); (case hp => walk_at "pk"); (case hr => walk_at "rs")))
local macro_rules | `(tactic| walk_at "stm") => `(tactic| first
  | ((fail_if_success (with_reducible show AW RF _ _ (execs (Stmt.While _ _ _ _ :: _) _) _ _ _)); (fail_if_success (with_reducible show AW RF _ _ (execs (Stmt.For _ _ _ _ _ :: _) _) _ _ _)); with_reducible refine ex_cons ?_)
  | with_reducible refine ex_nil ?_
  | ((with_reducible refine' ex_assign ?_ ?hsw); (case hsw => walk_at "ur"))
  | with_reducible refine ex_if ?_
  | with_reducible refine ex_return ?_
  | ((with_reducible refine' ex_exprX ?hk ?_ ?hsw); (case hk => walk_at "kd"); (case hsw => walk_at "ur"))
  | with_reducible refine ex_while ?_
  | ((with_reducible refine' ex_for ?_ ?hf); (case hf => walk_at "iur")))
local macro_rules | `(tactic| walk_at "tru") => `(tactic| first
  | with_reducible refine it_cmp ?_ rfl
  | with_reducible refine it_not ?_
  | with_reducible refine it_bool ?_
  | with_reducible refine at_and ?_
  | with_reducible refine at_or ?_
  | with_reducible refine at_nil ?_
  | ((with_reducible refine' it_plain ?_ ?hp); (case hp => walk_at "ur")))
local macro_rules | `(tactic| walk_at "evl") => `(tactic| first
  | walk_at "nm"
  | with_reducible refine aw_int ?_
  | with_reducible refine aw_strx (by with_reducible assumption) ?_
  | with_reducible refine aw_str ?_
  | with_reducible refine aw_BinOp ?_
  | ((with_reducible refine' aw_Method (pl := _) ?_ ?he); (case he => walk_at "ur"))
  | ((with_reducible refine' aw_Call ?_ ?he); (case he => walk_at "ur"))
  | with_reducible refine aw_SubSlice ?_
  | with_reducible refine aw_Subscript ?_
  | with_reducible refine aw_UnaryOp ?_
  | with_reducible refine aw_bool ?_
  | with_reducible refine aw_none ?_
  | with_reducible refine aw_List ?_
  | with_reducible refine aw_Tuple ?_
  | with_reducible refine aw_Compare ?_ rfl
  | ((with_reducible refine' aw_ListComp ?hclos ?hcell ?hkind ?hnames ?_ ?hfs); (case hclos => with_unfolding_all rfl); (case hcell => decide); (case hkind => with_unfolding_all rfl); (case hnames => decide); (case hfs => walk_at "iur"))
  | with_reducible refine aw_IfExp ?_)
local macro_rules | `(tactic| walk_at "cwt") => `(tactic| first
  | ((with_reducible refine' cw_me (by first | exact RV_ref _ | assumption) ?_ ?he ?hp); (case he => walk_at "ur"); (case hp => walk_at "ur"))
  | ((with_reducible refine' cw_fn ?_ ?he ?hp); (case he => walk_at "ur"); (case hp => walk_at "ur"))
  | with_reducible refine cw_me0 (by first | exact RV_ref _ | assumption) ?_
  | with_reducible refine cw_fn0 ?_)
local macro_rules | `(tactic| walk_at "mth") => `(tactic| first
  | with_reducible refine m_startswith ?_
  | with_reducible refine m_endswith ?_
  | with_reducible refine m_join ?_
  | ((with_reducible refine' m_append ?hm ?_); (case hm => walk_at "mm")))
local macro_rules | `(tactic| walk_at "cal") => `(tactic| first
  | with_reducible refine t_starts ?_
  | with_reducible refine t_ends ?_
  | ((with_reducible refine' t_len ?hz ?_); (case hz => walk_at "sz"))
  | ((with_reducible refine' b_len_list ?hm ?hz ?_); (case hm => walk_at "mm"); (case hz => walk_at "sz"))
  | ((with_reducible refine' b_append ?hp ?hz ?_); (case hp => walk_at "pk"); (case hz => walk_at "sz"))
  | ((with_reducible refine' t_join ?hm ?hz ?_); (case hm => walk_at "mm"); (case hz => walk_at "jz"))
  | with_reducible refine b_range1 ?_
  | with_reducible refine b_range2 ?_
  | ((with_reducible refine' b_maxM ?hh ?_); (case hh => walk_at "kd"))
  | with_reducible refine b_abs ?_)
local macro_rules | `(tactic| walk_at "bin") => `(tactic| first
  | with_reducible refine o_add_int ?_
  | with_reducible refine o_sub_int ?_
  | with_reducible refine c_lt_int ?_
  | with_reducible refine c_ge_int ?_
  | with_reducible refine t_eq ?_
  | with_reducible refine t_ne ?_
  | with_reducible refine c_eq_int ?_
  | with_reducible refine c_gt_int ?_
  | with_reducible refine c_ne_int ?_
  | ((with_reducible refine' o_add_list ?ha ?hb ?hz ?_); (case ha => walk_at "mm"); (case hb => walk_at "mm"); (case hz => walk_at "sz"))
  | ((with_reducible refine' t_add ?hz ?_); (case hz => walk_at "sz"))
  | ((with_reducible refine' o_modP ?hb ?_); (case hb => first | decide | omega))
  | ((with_reducible refine' o_divP ?hb ?hp ?_); (case hb => first | decide | omega); (case hp => decide))
  | ((with_reducible refine' o_mulL ?hm ?_); (case hm => decide))
  | ((with_reducible refine' o_mulR ?hm ?_); (case hm => decide))
  | ((with_reducible refine' t_mul1 ?h0 ?h1 ?_); (case h0 => omega); (case h1 => omega))
  | ((with_reducible refine' o_pow_int ?h0 ?h1 ?h2 ?_); (case h0 => decide); (case h1 => decide); (case h2 => decide)))
local macro_rules | `(tactic| walk_at "slc") => `(tactic| first
  | ((with_reducible refine' t_from ?hz ?hsl ?ht ?h0 ?_); (case hsl => walk_at "iur"); (case ht => walk_at "iur"); (case hz => walk_at "sz"); (case h0 => omega))
  | ((with_reducible refine' t_to ?hz ?hsl ?ht ?h0 ?_); (case hsl => walk_at "iur"); (case ht => walk_at "iur"); (case hz => walk_at "sz"); (case h0 => omega))
  | ((with_reducible refine' t_to_neg ?hz ?hsl ?ht ?h0 ?_); (case hsl => walk_at "iur"); (case ht => walk_at "iur"); (case hz => walk_at "sz"); (case h0 => omega))
  | ((with_reducible refine' t_between ?hz ?hsl ?ht ?h0 ?h1 ?_); (case hsl => walk_at "iur"); (case ht => walk_at "iur"); (case hz => walk_at "sz"); (case h0 => omega); (case h1 => omega))
  | ((with_reducible refine' sl_list ?hm ?hx ?hl ?hu ?_ ?hsl); (case hsl => walk_at "iur"); (case hm => walk_at "mm"); (case hx => walk_at "sz"); (case hl => exact rfl); (case hu => exact rfl)))
local macro_rules | `(tactic| walk_at "itm") => `(tactic| first
  | ((with_reducible refine' t_item ?h0 ?h1 ?hz ?_ ?hsl ?ht); (case hsl => walk_at "iur"); (case ht => walk_at "iur"); (case hz => walk_at "sz"); (case h0 => omega); (case h1 => omega)))
local macro_rules | `(tactic| walk_at "aw") => `(tactic| first
  | ((with_reducible show AW RV _ _ (eval _ _) _ _ _); walk_at "evl")
  | ((with_reducible show AW RF _ _ _ _ _ _); walk_at "stm")
  | ((with_reducible show AW Eq _ _ _ _ _ _); walk_at "tru")
  | ((with_reducible show AW RVs _ _ _ _ _ _); first | with_reducible refine sp_cons ?_ rfl | with_reducible refine sp_nil ?_)
  | ((with_reducible show AW RV _ _ (callWith _ _ _ _ _) _ _ _); walk_at "cwt")
  | ((with_reducible show AW RV _ _ (evalPart _ _) _ _ _); first | with_reducible refine ep_none ?_ | with_reducible refine ep_some ?_)
  | ((with_reducible show ASt _ _ _ _ _ _ _ _); walk_at "st")
  | ((with_reducible show A2 _ _ (binaryOp _) _ _ _ _ _); walk_at "bin")
  | ((with_reducible show A2 _ _ (compareOp _) _ _ _ _ _); walk_at "bin")
  | ((with_reducible show A2 _ _ (subscriptTail _ _) _ _ _ _ _); walk_at "itm")
  | ((with_reducible show ACall _ _ _ _ _ _ _); walk_at "cal")
  | ((with_reducible show AMeth _ _ _ _ _ _ _ _); walk_at "mth")
  | ((with_reducible show ATr _ _ _ _ _ _); first | with_reducible refine tr_bool ?_)
  | ((with_reducible show A1 _ _ _ _ _ _ _); first | with_reducible refine u_neg_int ?_)
  | ((with_reducible show ASl _ _ _ _ _ _ _ _ _ _); walk_at "slc")
  | ((with_reducible show Kp _ _ _ ∧ _); first | with_reducible refine ⟨kp_builtin, ?_⟩ | with_reducible refine ⟨kp_type, ?_⟩ | with_reducible refine ⟨kp_K (by assumption) (by assumption), ?_⟩)
  | ((with_reducible show ite _ _ _); first | refine ite_pos (by decide) ?_ | refine ite_neg (by decide) ?_ | refine ite_d (fun _ => ?_) (fun _ => ?_) | refine ite_nd (fun _ => ?_) (fun _ => ?_) | split)
  | with_reducible refine cf_one ?_
  | with_reducible refine cv_val ?_
  | with_reducible refine cv_ref ?_
  | ((with_reducible show (_ ≤ sizeLine) ∧ _); refine ⟨by walk_at "sz", ?_⟩)
  | ((with_reducible show AAs _ _ _ _ _ _ _ _ _); with_reducible refine as_name ?_)
  | ((with_reducible show ATests _ _ _ _ _ _ _); first | with_reducible refine te_nil ?_ | with_reducible refine te_one ?_)
  | (with_reducible intro _)
  | (dsimp only [AF.val, Turn]))
local macro_rules | `(tactic| walk_at "mth") => `(tactic| first
  | ((with_reducible refine' m_search ?G ?P ?_); (case G => walk_at "kd"); (case P => walk_at "kd"))
  | ((with_reducible refine' m_group ?hm ?_); (case hm => walk_at "mm")))
local macro_rules | `(tactic| walk_at "bin") => `(tactic| first
  | with_reducible refine c_is_none ?_
  | with_reducible refine c_isnot_none ?_
  | ((with_reducible refine' c_in_top ?G ?Z ?_); (case G => walk_at "kd"); (case Z => walk_at "kd")))
local macro_rules | `(tactic| walk_at "aw") => `(tactic| ((with_reducible show ATr _ _ _ _ _ _); first
  | with_reducible refine tr_none ?_
  | ((with_reducible refine' tr_str ?hz ?_); (case hz => walk_at "sz"))
  | ((with_reducible refine' tr_match ?hm ?_); (case hm => walk_at "mm"))
  | ((with_reducible refine' tr_list ?hm ?hz ?_); (case hm => walk_at "mm"); (case hz => walk_at "sz"))
  | with_reducible refine tr_int ?_))
local macro_rules | `(tactic| walk_at "mth") => `(tactic| with_reducible refine m_split ?_)
local macro_rules | `(tactic| walk_at "cal") => `(tactic| first
  | ((with_reducible refine' t_split ?hz ?_); (case hz => walk_at "sz"))
  | ((with_reducible refine' b_divmod ?hb ?hp ?_); (case hb => first | decide | omega); (case hp => decide))
  | with_reducible refine b_isi_int_int ?_
  | with_reducible refine b_isi_int_bool ?_
  | with_reducible refine b_isi_none_int ?_
  | with_reducible refine b_isi_none_bool ?_)
local macro_rules | `(tactic| walk_at "bin") => `(tactic| first
  | with_reducible refine c_in_sign ?_
  | with_reducible refine c_notin_sign ?_)
local macro_rules | `(tactic| walk_at "stm") => `(tactic| first
  | ((with_reducible refine' ex_assign2 ?hh ?_ ?hsw ?hww); (case hh => walk_at "kd"); (case hsw => walk_at "ur"); (case hww => walk_at "ur")))
local macro_rules | `(tactic| walk_at "aw") => `(tactic| ((with_reducible show ATup2 _ _ _); ((with_reducible refine' atup2 ?hm ?_); (case hm => walk_at "mm"))))
local macro_rules | `(tactic| walk_at "slc") => `(tactic| ((with_reducible refine' t_from_neg ?hz ?hsl ?ht ?h0 ?_); (case hsl => walk_at "iur"); (case ht => walk_at "iur"); (case hz => walk_at "sz"); (case h0 => omega)))
local macro_rules | `(tactic| walk_at "stm") => `(tactic| first
  | ((with_reducible refine' ex_assign2x ?hh ?hk ?hx ?hy ?hl ?hne ?hst ?hf ?hc ?_ ?hs); (case hh => walk_at "kd"); (case hk => walk_at "kd"); (case hx => walk_at "kd"); (case hy => walk_at "kd"); (case hl => rfl); (case hne => decide); (case hst => walk_at "ur"); (case hf => walk_at "ur"); (case hc => walk_at "ur"); (case hs => walk_at "ur")))
local macro_rules | `(tactic| walk_at "stm") => `(tactic| first
  | ((with_reducible refine' ex_compL ?hk ?hx ?hl ?hs ?hclos ?hcell ?hkind ?hnames ?_ ?hfs); (case hk => walk_at "kd"); (case hx => walk_at "kd"); (case hl => rfl); (case hs => decide); (case hclos => with_unfolding_all rfl); (case hcell => decide); (case hkind => with_unfolding_all rfl); (case hnames => decide); (case hfs => walk_at "iur"))
  | ((with_reducible refine' ex_compC ?hx ?_); (case hx => walk_at "kd")))
local macro_rules | `(tactic| walk_at "aw") => `(tactic| first
  | ((with_reducible show Gone _ _ _ _); ((with_reducible refine' gone ?hp ?_); (case hp => walk_at "pk")))
  | ((with_reducible show CDone _ _ _ _ _); ((with_reducible refine' cdone ?hp ?_); (case hp => walk_at "pk"))))
local macro_rules | `(tactic| walk_at "stm") => `(tactic| first
  | ((with_reducible refine' ex_setitem ?_ ?hsw); (case hsw => walk_at "ur"))
  | ((with_reducible refine' ex_comp2L ?hk ?hx ?hl ?hs ?hclos ?hcell ?hkind ?hnames ?_ ?hfs); (case hk => walk_at "kd"); (case hx => walk_at "kd"); (case hl => rfl); (case hs => decide); (case hclos => with_unfolding_all rfl); (case hcell => decide); (case hkind => with_unfolding_all rfl); (case hnames => decide); (case hfs => walk_at "iur")))
local macro_rules | `(tactic| walk_at "evl") => `(tactic| first
  | ((with_reducible refine' aw_DictNil ?G ?_); (case G => walk_at "kd"))
  | ((with_reducible refine' aw_DictX ?G ?hall ?hl ?h0 ?hlen ?_); (case G => walk_at "kd"); (case hall => rfl); (case hl => rfl); (case h0 => rfl); (case hlen => rfl)))
local macro_rules | `(tactic| walk_at "mth") => `(tactic| ((with_reducible refine' m_get ?hm ?_); (case hm => walk_at "mm")))
local macro_rules | `(tactic| walk_at "cal") => `(tactic| first
  | ((with_reducible refine' b_get ?hm ?lo ?_); (case hm => walk_at "mm"); (case lo => walk_at "kd"))
  | ((with_reducible refine' b_chr ?h0 ?h1 ?_); (case h0 => omega); (case h1 => omega)))
local macro_rules | `(tactic| walk_at "bin") => `(tactic| first
  | with_reducible refine c_in_empty ?_
  | ((with_reducible refine' c_in_dict ?hm ?lo ?_); (case hm => walk_at "mm"); (case lo => walk_at "kd"))
  | ((with_reducible refine' c_notin_dict ?hm ?lo ?_); (case hm => walk_at "mm"); (case lo => walk_at "kd")))
local macro_rules | `(tactic| walk_at "aw") => `(tactic| first
  | ((with_reducible show AW RPs _ _ _ _ _ _); first | with_reducible refine pt_consX ?_ | with_reducible refine pt_nil ?_)
  | ((with_reducible show AKey _ _); with_reducible refine akey ?_)
  | ((with_reducible show ADPut _ _ _ _ _ _); ((with_reducible refine' adput ?hz ?hp ?_); (case hz => walk_at "sz"); (case hp => walk_at "pk")))
  | ((with_reducible show ASI _ _ _ _ _ _ _ _); ((with_reducible refine' si_dict ?hp ?hz ?_); (case hp => walk_at "pk"); (case hz => walk_at "sz"))))
local macro_rules | `(tactic| walk_at "cal") => `(tactic| ((with_reducible refine' b_len_base ?hm ?hz ?_); (case hm => walk_at "kd"); (case hz => walk_at "sz")))
local macro_rules | `(tactic| walk_at "bin") => `(tactic| ((with_reducible refine' o_pow_int ?h0 ?h1 ?h2 ?_); (case h0 => omega); (case h1 => omega); (case h2 => decide)))
abbrev pw := PySem.Challenge.pw_dm0150_05
theorem tz_body {C : Cx} {E : Value → Shared → Prop} {sc : Scope} {q : Str} {f : Addr} {cd : Value} {σ : Sto} {l : List Nat} {da pa : Addr} {n : Nat} {Q : AF → Loc → Sto → Prop}
    (hsc : sc = fnScope pw "offset_from_tz_string") (O : C.Ok (envX q sc C.L f cd []) (n + 1)) (Z : Zn C.K C.w.params "UTC_ZONES" da tzNames) (P : Pat C.K "TIMEZONE_RE" pa tzc 3)
    (b1 : nsIn C.K mainGlobals (Str.ofString "int") = some none) (hl : l.length ≤ 1000000) (h : ∀ ρ', Q (.ret (optAV (tzVal l))) ρ' σ) :
    AW RF C E (execs (fnBody pw "offset_from_tz_string") (envX q sc C.L f cd [])) Q [(Str.ofString "tz", .str (tx l))] σ := by
  have hk : sc.kind = .function := by subst hsc; kernel_rfl
  have k1 : sc.names.lookup (Str.ofString "tz") = some .local := by subst hsc; kernel_rfl
  have k2 : sc.names.lookup (Str.ofString "offset") = some .local := by subst hsc; kernel_rfl
  have k3 : sc.names.lookup (Str.ofString "m") = some .local := by subst hsc; kernel_rfl
  have k4 : sc.names.lookup (Str.ofString "UTC_ZONES") = some .globalImplicit := by subst hsc; kernel_rfl
  have k5 : sc.names.lookup (Str.ofString "TIMEZONE_RE") = some .globalImplicit := by subst hsc; kernel_rfl
  have k6 : sc.names.lookup (Str.ofString "int") = some .globalImplicit := by subst hsc; kernel_rfl
  clear hsc
  have G := O.gl
  have hh := O.hh
  have z1 := Z.glob
  have z2 := P.glob
  have hq : Str.ofString "-" = tx [45] := by decide
  refine AW.shrink ?_
  conv =>
    pattern fnBody _ _
    whnf
  repeat' walk_at "aw"
  · have e : tzVal l = some 0 := by unfold tzVal; rw [if_pos (by assumption)]
    rw [e] at h
    exact ⟨[], σ, by walk_at "sb", LocSub.nil, h _⟩
  · rename_i hnm
    have ev : tzVal l = vAll l := by unfold tzVal; rw [if_neg hnm]
    have ta := tz_all l
    refine b_search G P (by omega) (by decide) (N := l.length * 302 + 400) (by omega) (tz_search l) ?_ ?_
    · intro hn
      have hn' : tzAll 0 l (k0 6) = none := by simpa using hn
      rw [hn'] at ta
      have ta : vAll l = none := ta
      rw [ev, ta] at h
      repeat' walk_at "aw"
      exact ⟨[], σ, by walk_at "sb", LocSub.nil, h _⟩
    · intro st x hx
      have hx' : tzAll 0 l (k0 6) = some x ∧ st = 0 := by
        cases hz : tzAll 0 l (k0 6) with
        | none => rw [hz] at hx; cases hx
        | some y => rw [hz] at hx; cases hx; exact ⟨rfl, rfl⟩
      obtain ⟨hx', rfl⟩ := hx'
      rw [hx'] at ta
      obtain ⟨hok, v, hv, hM⟩ := ta
      rw [ev, hv] at h
      refine ⟨hok, fun ma ta => ?_⟩
      generalize spans 3 0 x = sp at hM
      obtain ⟨hlen, p, e, hd, e4, e5, hsl, hne, hle, hdg, mm, hmm, neg, hneg, hval⟩ := hM
      have gl : l.length ≤ sizeLine := by rw [sizeLine_eq]; omega
      repeat' walk_at "aw"
      refine b_group_some (g := 2) rfl (by walk_at "mm") (by walk_at "mm") (by omega) gl e4 e5 hsl ?_
      repeat' walk_at "aw"
      refine b_int_text (fun c hc => dig_le (hdg c hc)) hne (by omega) ?_
      repeat' walk_at "aw"
      generalize hH : List.foldl (fun (a : Int) (c : Nat) => 10 * a + ((c : Int) - 48)) 0 hd = H
      have hval : v = if neg = true then -(3600 * H + 60 * mm) else 3600 * H + 60 * mm := by rw [hval, ← hH]; rfl
      rcases hmm with ⟨e6, rfl⟩ | ⟨p3, a3, b3, e6, e7, hs3, ha3, hb3, rfl⟩
      · refine b_group_none (g := 3) rfl (by walk_at "mm") (by walk_at "mm") (by omega) gl e6 ?_
        repeat' walk_at "aw"
        rcases hneg with ⟨e2, rfl⟩ | ⟨p1, c1, e2, e3, hs1, rfl⟩
        · refine b_group_none (g := 1) rfl (by walk_at "mm") (by walk_at "mm") (by omega) gl e2 ?_
          repeat' walk_at "aw"
          refine c_eq_none_str O (strOk_tx (by simp)) ?_
          repeat' walk_at "aw"
          have ev2 : 3600 * H = v := by rw [hval]; simp
          rw [ev2]
          exact ⟨[], σ, by walk_at "sb", LocSub.nil, h _⟩
        · refine b_group_some (g := 1) rfl (by walk_at "mm") (by walk_at "mm") (by omega) gl e2 e3 hs1 ?_
          repeat' walk_at "aw"
          · have ev2 : -(3600 * H) = v := by rw [hval]; simp_all
            rw [ev2]
            exact ⟨[], σ, by walk_at "sb", LocSub.nil, h _⟩
          · have ev2 : 3600 * H = v := by rw [hval]; simp_all
            rw [ev2]
            exact ⟨[], σ, by walk_at "sb", LocSub.nil, h _⟩
      · refine b_group_some (g := 3) rfl (by walk_at "mm") (by walk_at "mm") (by omega) gl e6 e7 hs3 ?_
        repeat' walk_at "aw"
        rotate_left
        · exact absurd (List.cons_ne_nil _ _) (by assumption)
        refine b_group_some (g := 3) rfl (by walk_at "mm") (by walk_at "mm") (by omega) gl e6 e7 hs3 ?_
        repeat' walk_at "aw"
        refine b_int_text (fun c hc => by
          rcases List.mem_cons.mp hc with rfl | hc
          · exact dig_le ha3
          · rcases List.mem_cons.mp hc with rfl | hc
            · exact dig_le hb3
            · cases hc) (by simp) (by simp) ?_
        have em : List.foldl (fun (a : Int) (c : Nat) => 10 * a + ((c : Int) - 48)) 0 [a3, b3] = 10 * fig a3 + fig b3 := by simp [fig]
        rw [em]
        generalize 10 * fig a3 + fig b3 = mm at hval
        repeat' walk_at "aw"
        rcases hneg with ⟨e2, rfl⟩ | ⟨p1, c1, e2, e3, hs1, rfl⟩
        · refine b_group_none (g := 1) rfl (by walk_at "mm") (by walk_at "mm") (by omega) gl e2 ?_
          repeat' walk_at "aw"
          refine c_eq_none_str O (strOk_tx (by simp)) ?_
          repeat' walk_at "aw"
          have ev2 : 3600 * H + 60 * mm = v := by rw [hval]; simp
          rw [ev2]
          exact ⟨[], σ, by walk_at "sb", LocSub.nil, h _⟩
        · refine b_group_some (g := 1) rfl (by walk_at "mm") (by walk_at "mm") (by omega) gl e2 e3 hs1 ?_
          repeat' walk_at "aw"
          · have ev2 : -(3600 * H + 60 * mm) = v := by rw [hval]; simp_all
            rw [ev2]
            exact ⟨[], σ, by walk_at "sb", LocSub.nil, h _⟩
          · have ev2 : 3600 * H + 60 * mm = v := by rw [hval]; simp_all
            rw [ev2]
            exact ⟨[], σ, by walk_at "sb", LocSub.nil, h _⟩
theorem tz_call {C : Cx} {E : Value → Shared → Prop} {env : Env} {n : Nat} {f da pa : Addr} {l : List Nat} {ρ : Loc} {σ : Sto} {Q : AV → Loc → Sto → Prop} (O : C.Ok env (n + 2)) (F : Fn C.K pw "offset_from_tz_string" f)
    (Z : Zn C.K C.w.params "UTC_ZONES" da tzNames) (P : Pat C.K "TIMEZONE_RE" pa tzc 3) (b1 : nsIn C.K mainGlobals (Str.ofString "int") = some none) (hl : l.length ≤ 1000000) (h : Q (optAV (tzVal l)) ρ σ) :
    ACall C E (.ref f) [.str (tx l)] Q ρ σ :=
  b_fn (names := [Str.ofString "tz"]) O F (by intro qual pm cdv vs hv; match vs, hv with | [v], _ => rfl) (by decide) (by intro y hy; rcases List.mem_singleton.mp hy; kernel_rfl) (by decide +kernel) (by kernel_rfl) (by kernel_rfl) (by kernel_rfl)
    fun C' qual cdv E' hK _ hw _ _ O' => tz_body rfl O' (by rw [hK, hw]; exact Z) (by rw [hK]; exact P) (by rw [hK]; exact b1) hl fun ρ' => h
theorem pow40 {n : Nat} (h : n < 4) : 1 ≤ (40 : Int) ^ n ∧ (40 : Int) ^ n ≤ 64000 := by
  have : n = 0 ∨ n = 1 ∨ n = 2 ∨ n = 3 := by omega
  rcases this with rfl | rfl | rfl | rfl <;> decide
def known39 : List Nat := [48, 49, 50, 51, 52, 53, 54, 55, 56, 57, 43, 45, 58, 10, 71, 77, 84, 85, 67, 90, 95, 32, 9, 13, 46, 122, 101, 1635, 178, 65301, 8722, 8232, 120, 44, 47, 11, 39, 40, 133]
theorem known_ok {i c : Nat} (hi : i < 40) (hc : c < 0x110000) : (known39 ++ [c]).getD i 0 < 0x110000 := by
  have hm : (known39 ++ [c]).getD i 0 ∈ known39 ++ [c] := by
    have : i < (known39 ++ [c]).length := by simp [known39]; omega
    rw [List.getD, List.getElem?_eq_getElem this]
    exact List.getElem_mem _
  rcases List.mem_append.mp hm with h | h
  · have : ∀ x ∈ known39, x < 0x110000 := by decide
    exact this _ h
  · rw [List.mem_singleton.mp h]; exact hc
theorem signs_body {C : Cx} {E : Value → Shared → Prop} {sc : Scope} {q : Str} {f a : Addr} {cd : Value} {σ : Sto} {ns : List Int} {n : Nat} {Q : AF → Loc → Sto → Prop}
    (hsc : sc = fnScope pw "_law_signs") (O : C.Ok (envX q sc C.L f cd [(Str.ofString "known", C.L + 3), (Str.ofString "total", C.L + 2), (Str.ofString "script", C.L + 1)]) (n + 1)) (B : Bn C.K ["abs", "sum", "range", "len", "chr"])
    (hb : BaseL C a (ns.map .int)) (hl : ns.length ≤ 63)
    (h : ∀ sg ρ', sg.length = 4 → (∀ c ∈ sg, c < 0x110000) → Q (.ret (.str (tx sg))) ρ' σ) :
    AW RF C E (execs (fnBody pw "_law_signs") (envX q sc C.L f cd [(Str.ofString "known", C.L + 3), (Str.ofString "total", C.L + 2), (Str.ofString "script", C.L + 1)])) Q [] ([(C.L + 3, .cell none), (C.L + 2, .cell none), (C.L + 1, .cell (some (.ref a)))] ++ σ) := by
  have hk : sc.kind = .function := by subst hsc; kernel_rfl
  have k1 : sc.names.lookup (Str.ofString "script") = some .cell := by subst hsc; kernel_rfl
  have k2 : sc.names.lookup (Str.ofString "total") = some .cell := by subst hsc; kernel_rfl
  have k3 : sc.names.lookup (Str.ofString "known") = some .cell := by subst hsc; kernel_rfl
  have k4 : sc.names.lookup (Str.ofString "abs") = some .globalImplicit := by subst hsc; kernel_rfl
  have k5 : sc.names.lookup (Str.ofString "sum") = some .globalImplicit := by subst hsc; kernel_rfl
  have k6 : sc.names.lookup (Str.ofString "range") = some .globalImplicit := by subst hsc; kernel_rfl
  have k7 : sc.names.lookup (Str.ofString "len") = some .globalImplicit := by subst hsc; kernel_rfl
  have k8 : sc.names.lookup (Str.ofString "chr") = some .globalImplicit := by subst hsc; kernel_rfl
  clear hsc
  have G := O.gl
  have hh := O.hh
  have b1 : nsIn C.K mainGlobals (Str.ofString "abs") = some none := B _ (by simp)
  have b2 : nsIn C.K mainGlobals (Str.ofString "sum") = some none := B _ (by simp)
  have b3 : nsIn C.K mainGlobals (Str.ofString "range") = some none := B _ (by simp)
  have b4 : nsIn C.K mainGlobals (Str.ofString "len") = some none := B _ (by simp)
  have b5 : nsIn C.K mainGlobals (Str.ofString "chr") = some none := B _ (by simp)
  have q1 : Str.ofString "0123456789+-:\nGMTUCZ_ \t\r.ze٣²５−\u2028x,/\x0b'(\x85" = tx known39 := by decide
  have q9 : Str.ofString "" = tx [] := by decide
  refine AW.shrink ?_
  conv =>
    pattern fnBody _ _
    whnf
  show AW RF _ _ _ _ [] ((C.L + 3, .cell none) :: (C.L + 2, .cell none) :: (C.L + 1, .cell (some (.ref a))) :: σ)
  generalize C.L + 1 = c1 at *
  repeat' walk_at "aw"
  rename_i R
  refine it_rng (n := ns.length) (by walk_at "mm") (by simp) (by omega) (by omega) (by simp) (by simp; omega) fun I => ⟨rit 0 ns.length 0, by walk_at "mm", ns_range, fun D c => ?_⟩
  refine comp_indA (fun i : Nat => .int ((0 : Int) + (i : Nat))) (List.range ns.length) (iter_rng hh) (fun d r acc σ' => (∃ ms : List Int, acc = ms.map .int ∧ ms.length = d.length) ∧ σ' = ((R, rangeO 0 ((ns.map AV.int).length : Int)) :: (C.L + 3, .cell none) :: (C.L + 2, .cell none) :: (c1, .cell (some (.ref a))) :: σ)) (by rw [sizeLine_eq]; simp; omega) ?_ ?_ ?step ?_ ⟨⟨[], rfl, rfl⟩, rfl⟩
  case step =>
    rintro d x r acc σ' hxs ⟨⟨ms, rfl, hml⟩, rfl⟩ E'
    have hx : x < ns.length := by
      have : x ∈ List.range ns.length := by rw [hxs]; simp
      simpa using this
    have e0 : (0 : Int) + (x : Nat) = (x : Int) := by omega
    rw [e0]
    repeat' walk_at "aw"
    refine s_base hb (by rw [List.length_map, sizeLine_eq]; omega) (by omega) (v := .int (ns[x])) (by rw [Int.toNat_natCast, List.getElem?_map, List.getElem?_eq_getElem hx]; rfl) ?_ (by walk_at "iur")
    repeat' walk_at "aw"
    have hp := pow40 (n := ((x : Int) % 4).toNat) (by omega)
    generalize (40 : Int) ^ ((x : Int) % 4).toNat = p at *
    refine o_mulR (bits_ok (by omega)) ?_
    refine ⟨_, _, ⟨⟨ms ++ [ns[x] * p], by simp, by simp [hml]⟩, rfl⟩, by walk_at "sb", by walk_at "ls"⟩
  · exact fun _ _ _ _ _ => trivial
  · rintro d r acc σ' ⟨⟨ms, rfl, hml⟩, _⟩
    simp [hml]
  rintro acc ρ₂ σ' ⟨⟨ms, rfl, hml⟩, rfl⟩
  repeat' walk_at "aw"
  refine b_sum (ns := ms) hh (by walk_at "mm") rfl ?_
  repeat' walk_at "aw"
  have ht : 0 ≤ (if ms.sum < 0 then -ms.sum else ms.sum) := by split <;> omega
  generalize (if ms.sum < 0 then -ms.sum else ms.sum) = total at *
  repeat' walk_at "aw"
  have hk39 : known39.length = 39 := rfl
  refine t_add (by walk_at "sz") ?_
  have hkl : (known39 ++ [(total / 40 ^ Int.toNat 4 % 55296).toNat]).length = 40 := by simp [known39]
  have hkc : ∀ i, i < 40 → (known39 ++ [(total / 40 ^ Int.toNat 4 % 55296).toNat]).getD i 0 < 0x110000 := fun i hi => known_ok hi (by omega)
  generalize known39 ++ [(total / 40 ^ Int.toNat 4 % 55296).toNat] = kn at *
  repeat' walk_at "aw"
  rename_i R2
  refine it_rng (n := 4) (by walk_at "mm") (by decide) (by omega) (by omega) (by omega) (by omega) fun I2 => ⟨rit 0 4 0, by walk_at "mm", ns_range, fun D2 c2 => ?_⟩
  refine comp_indA (fun i : Nat => .int ((0 : Int) + (i : Nat))) (List.range 4) (iter_rng hh) (fun d r acc σ' => (∃ cs : List Nat, acc = ((cs.map fun c => [c]).map fun l => AV.str (tx l)) ∧ cs.length = d.length ∧ ∀ c ∈ cs, c < 0x110000) ∧ σ' = ((R2, rangeO 0 4) :: (C.L + 3, .cell (some (.str (tx kn)))) :: (C.L + 2, .cell (some (.int total))) :: (D, .list (ms.map .int)) :: (R, rangeO 0 ((ns.map AV.int).length : Int)) :: (c1, .cell (some (.ref a))) :: σ)) (by rw [sizeLine_eq]; decide) ?_ ?_ ?step2 ?_ ⟨⟨[], rfl, rfl, by simp⟩, rfl⟩
  case step2 =>
    rintro d x r acc σ' hxs ⟨⟨cs, rfl, hcl, hcc⟩, rfl⟩ E'
    have hx : x < 4 := by
      have : x ∈ List.range 4 := by rw [hxs]; simp
      simpa using this
    have e0 : (0 : Int) + (x : Nat) = (x : Int) := by omega
    rw [e0]
    repeat' walk_at "aw"
    have hp := pow40 (n := (x : Int).toNat) (by omega)
    generalize (40 : Int) ^ (x : Int).toNat = p at *
    refine o_divP (by omega) (by omega) ?_
    have ht2 : 0 ≤ total / p := Int.ediv_nonneg ht (by omega)
    generalize total / p = tp at *
    repeat' walk_at "aw"
    have := hkc (tp % 40).toNat (by omega)
    generalize kn.getD (tp % 40).toNat 0 = cc at *
    refine ⟨_, _, ⟨⟨cs ++ [cc], by simp, by simp [hcl], fun c' hc' => ?_⟩, rfl⟩, by walk_at "sb", by walk_at "ls"⟩
    rcases List.mem_append.mp hc' with hc' | hc'
    · exact hcc _ hc'
    · rw [List.mem_singleton.mp hc']; exact this
  · exact fun _ _ _ _ _ => trivial
  · rintro d r acc σ' ⟨⟨cs, rfl, hcl, _⟩, _⟩
    simp [hcl]
  rintro acc ρ₂ σ' ⟨⟨cs, rfl, hcl, hcc⟩, rfl⟩
  have hcl4 : cs.length = 4 := by simpa using hcl
  have hfl : (cs.map fun c => [c]).flatten = cs := by
    clear hcl hcc hcl4
    induction cs with
    | nil => rfl
    | cons c cs ih => rw [List.map_cons, List.flatten_cons, ih]; rfl
  have hjz : ((cs.map fun c => [c]).map List.length).sum + (cs.map fun c => [c]).length * ([] : List Nat).length ≤ 1000000 := by
    rw [← List.length_flatten, hfl, List.length_nil, Nat.mul_zero]; omega
  repeat' walk_at "aw"
  rw [joinL_nil, hfl]
  exact ⟨[], σ, by walk_at "sb", LocSub.nil, h _ _ hcl4 hcc⟩
theorem signs_call {C : Cx} {E : Value → Shared → Prop} {env : Env} {n : Nat} {f a : Addr} {ns : List Int} {ρ : Loc} {σ : Sto} {Q : AV → Loc → Sto → Prop} (O : C.Ok env (n + 2)) (F : Fn C.K pw "_law_signs" f) (B : Bn C.K ["abs", "sum", "range", "len", "chr"])
    (hb : BaseL C a (ns.map .int)) (hl : ns.length ≤ 63) (h : ∀ sg, sg.length = 4 → (∀ c ∈ sg, c < 0x110000) → Q (.str (tx sg)) ρ σ) :
    ACall C E (.ref f) [.ref a] Q ρ σ :=
  b_fnC (names := [Str.ofString "script"]) (locs := []) (cls := fun L => [(Str.ofString "known", L + 3), (Str.ofString "total", L + 2), (Str.ofString "script", L + 1)]) (cs := fun L => [(L + 3, .cell none), (L + 2, .cell none), (L + 1, .cell (some (.ref a)))]) O F
    (by intro qual pm cdv vs hv; match vs, hv with | [v], _ => rfl) (by decide) (by intro n y hy; rcases List.mem_singleton.mp hy; exact .inr ⟨by kernel_rfl, by kernel_rfl⟩) (by decide +kernel) (by kernel_rfl) (by intro L; kernel_rfl) (by intro L; kernel_rfl) (by kernel_rfl) (by kernel_rfl) (by kernel_rfl)
    fun C' qual cdv E' hK _ hw _ hst O' => signs_body rfl O' (by rw [hK]; exact B) (hb.stays hst) hl fun sg ρ' h1 h2 => h sg h1 h2
theorem list_body {C : Cx} {E : Value → Shared → Prop} {sc : Scope} {q : Str} {f : Addr} {cd : Value} {σ : Sto} {sg : List Nat} {n : Nat} {Q : AF → Loc → Sto → Prop}
    (hsc : sc = fnScope pw "_law_list") (O : C.Ok (envX q sc C.L f cd [(Str.ofString "figures", C.L + 2), (Str.ofString "signs", C.L + 1)]) (n + 1)) (b1 : nsIn C.K mainGlobals (Str.ofString "int") = some none)
    (hsl : sg.length = 4)
    (h : ∀ d kvs N ρ', (d == sysModules) = false → Inv5 kvs (all5 sg) N → Q (.ret (.ref d)) ρ' ((d, dictO C.prog C.w kvs) :: σ)) :
    AW RF C E (execs (fnBody pw "_law_list") (envX q sc C.L f cd [(Str.ofString "figures", C.L + 2), (Str.ofString "signs", C.L + 1)])) Q [] ([(C.L + 2, .cell none), (C.L + 1, .cell (some (.str (tx sg))))] ++ σ) := by
  have hk : sc.kind = .function := by subst hsc; kernel_rfl
  have k1 : sc.names.lookup (Str.ofString "signs") = some .cell := by subst hsc; kernel_rfl
  have k2 : sc.names.lookup (Str.ofString "figures") = some .cell := by subst hsc; kernel_rfl
  have k3 : sc.names.lookup (Str.ofString "twos") = some .local := by subst hsc; kernel_rfl
  have k4 : sc.names.lookup (Str.ofString "seconds") = some .local := by subst hsc; kernel_rfl
  have k5 : sc.names.lookup (Str.ofString "heads") = some .local := by subst hsc; kernel_rfl
  have k6 : sc.names.lookup (Str.ofString "colons") = some .local := by subst hsc; kernel_rfl
  have k7 : sc.names.lookup (Str.ofString "ends") = some .local := by subst hsc; kernel_rfl
  have k8 : sc.names.lookup (Str.ofString "hours") = some .local := by subst hsc; kernel_rfl
  have k9 : sc.names.lookup (Str.ofString "minutes") = some .local := by subst hsc; kernel_rfl
  have k10 : sc.names.lookup (Str.ofString "size") = some .local := by subst hsc; kernel_rfl
  have k11 : sc.names.lookup (Str.ofString "colon") = some .local := by subst hsc; kernel_rfl
  have k12 : sc.names.lookup (Str.ofString "end") = some .local := by subst hsc; kernel_rfl
  have k13 : sc.names.lookup (Str.ofString "head") = some .local := by subst hsc; kernel_rfl
  have k14 : sc.names.lookup (Str.ofString "int") = some .globalImplicit := by subst hsc; kernel_rfl
  clear hsc
  have G := O.gl
  have hh := O.hh
  have q1 : Str.ofString "0123456789" = tx figs10 := by decide
  have q2 : Str.ofString "" = tx [] := by decide
  have q3 : Str.ofString "GMT" = tx [71, 77, 84] := by decide
  have q4 : Str.ofString "UTC" = tx [85, 84, 67] := by decide
  have q5 : Str.ofString "UT" = tx [85, 84] := by decide
  have q6 : Str.ofString "Z" = tx [90] := by decide
  have q7 : Str.ofString "+" = tx [43] := by decide
  have q8 : Str.ofString "-" = tx [45] := by decide
  have q9 : Str.ofString ":" = tx [58] := by decide
  have q10 : Str.ofString "\n" = tx [10] := by decide
  have q11 : Str.ofString "0" = tx [48] := by decide
  have hfl := figT_len sg hsl
  have htl := twosT_len sg hsl
  refine AW.shrink ?_
  conv =>
    pattern fnBody _ _
    whnf
  show AW RF _ _ _ _ [] ((C.L + 2, .cell none) :: (C.L + 1, .cell (some (.str (tx sg)))) :: σ)
  generalize C.L + 1 = c1 at *
  generalize C.L + 2 = c2 at *
  repeat' walk_at "aw"
  refine it_str fun I => ⟨siterO figs10 0, by walk_at "mm", ns_str, fun D c => ?_⟩
  refine comp_fm (fun c => .str (tx [c])) figs10 (fun c => if c ∈ sg then some (.str (tx [c])) else none) (iter_str hh) (by rw [sizeLine_eq]; decide) trivial ?_ ?_
  · intro d x r hxs E'
    repeat' walk_at "aw"
    · rename_i hn
      exact ⟨_, if_pos hn, by walk_at "sb", by walk_at "ls"⟩
    · rename_i hn
      exact ⟨_, if_neg hn, by walk_at "sb", by walk_at "ls"⟩
  intro ρ₂
  rw [fm_figs]
  repeat' walk_at "aw"
  refine it_list (by walk_at "mm") fun I2 => ⟨literO D 0, by walk_at "mm", ns_list, fun T c3 => ?_⟩
  refine comp2_fm (fun t => .str (tx t)) (figT sg) (iter_list (a := D) hh) (fun t => .str (tx t)) (figT sg) (iter_list (a := D) hh) (fun a b => .str (tx (a ++ b))) (fun a => [(Str.ofString "one", .str (tx a))]) (Nat.le_trans (Nat.mul_le_mul hfl hfl) (by decide)) (.inl (by walk_at "mm")) (.inl (by walk_at "mm")) (by walk_at "iur") ?_ ?_ (fun _ => by simp) ?_
  · intro x hx E' acc i
    repeat' walk_at "aw"
    refine it_list (by walk_at "mm") fun I3 => ?_
    exact ⟨by walk_at "sb", by walk_at "ls"⟩
  · intro x hx y hy E' acc i j I'
    have h1 := (nums_of (List.mem_append_left (twosT sg) hx)).2.1
    have h2 := (nums_of (List.mem_append_left (twosT sg) hy)).2.1
    repeat' walk_at "aw"
    refine ⟨_, rfl, ?_, by walk_at "sb", by walk_at "ls"⟩
    walk_at "ls"
  intro nsρ
  have htw : ((figT sg).flatMap fun x => (figT sg).map fun b => AV.str (tx (x ++ b))) = (twosT sg).map fun t => AV.str (tx t) := by
    unfold twosT
    rw [List.map_flatMap]
    congr 1
    funext x
    rw [List.map_map]; rfl
  rw [htw]
  repeat' walk_at "aw"
  rename_i dd hlo lH
  have I0 := inv5_0
  generalize putAll [] [([71, 77, 84], AV.int 0), ([85, 84, 67], AV.int 0), ([85, 84], AV.int 0), ([90], AV.int 0)] = kv0 at *
  refine it_list (by walk_at "mm") fun I3 => ⟨literO lH 0, by walk_at "mm", ns_list, fun H c4 => ?_⟩
  refine comp_fm (fun t => .str (tx t)) [[], [43], [45]] (fun t => if sub sg t = true then some (.str (tx t)) else none) (iter_list (a := lH) hh) (by rw [sizeLine_eq]; decide) (.inl (show (lH, AO.list [AV.str (tx []), AV.str (tx [43]), AV.str (tx [45])]) ∈ _ from by walk_at "mm")) ?_ ?_
  · intro d x r hxs E'
    have hx : x = [] ∨ x = [43] ∨ x = [45] := by
      have : x ∈ [[], [43], [45]] := by rw [hxs]; simp
      simpa using this
    rcases hx with rfl | rfl | rfl
    · repeat' walk_at "aw"
      exact ⟨_, if_pos (sub_nil sg), by walk_at "sb", by walk_at "ls"⟩
    · repeat' walk_at "aw"
      · rename_i hn
        exact ⟨_, if_pos (by rw [sub_one]; exact decide_eq_true hn), by walk_at "sb", by walk_at "ls"⟩
      · rename_i hn
        exact ⟨_, if_neg (by rw [sub_one]; simpa using hn), by walk_at "sb", by walk_at "ls"⟩
    · repeat' walk_at "aw"
      · rename_i hn
        exact ⟨_, if_pos (by rw [sub_one]; exact decide_eq_true hn), by walk_at "sb", by walk_at "ls"⟩
      · rename_i hn
        exact ⟨_, if_neg (by rw [sub_one]; simpa using hn), by walk_at "sb", by walk_at "ls"⟩
  intro ρ₃
  rw [fm_sub, show List.filter (sub sg) [[], [43], [45]] = heads5 sg from rfl]
  repeat' walk_at "aw"
  rename_i lK
  refine it_list (by walk_at "mm") fun I4 => ⟨literO lK 0, by walk_at "mm", ns_list, fun K c5 => ?_⟩
  refine comp_fm (fun t => .str (tx t)) [[], [58]] (fun t => if sub sg t = true then some (.str (tx t)) else none) (iter_list (a := lK) hh) (by rw [sizeLine_eq]; decide) (.inl (show (lK, AO.list [AV.str (tx []), AV.str (tx [58])]) ∈ _ from by walk_at "mm")) ?_ ?_
  · intro d x r hxs E'
    have hx : x = [] ∨ x = [58] := by
      have : x ∈ [[], [58]] := by rw [hxs]; simp
      simpa using this
    rcases hx with rfl | rfl
    · repeat' walk_at "aw"
      exact ⟨_, if_pos (sub_nil sg), by walk_at "sb", by walk_at "ls"⟩
    · repeat' walk_at "aw"
      · rename_i hn
        exact ⟨_, if_pos (by rw [sub_one]; exact decide_eq_true hn), by walk_at "sb", by walk_at "ls"⟩
      · rename_i hn
        exact ⟨_, if_neg (by rw [sub_one]; simpa using hn), by walk_at "sb", by walk_at "ls"⟩
  intro ρ₄
  rw [fm_sub, show List.filter (sub sg) [[], [58]] = colons5 sg from rfl]
  repeat' walk_at "aw"
  rename_i lN
  refine it_list (by walk_at "mm") fun I5 => ⟨literO lN 0, by walk_at "mm", ns_list, fun N c6 => ?_⟩
  refine comp_fm (fun t => .str (tx t)) [[], [10]] (fun t => if sub sg t = true then some (.str (tx t)) else none) (iter_list (a := lN) hh) (by rw [sizeLine_eq]; decide) (.inl (show (lN, AO.list [AV.str (tx []), AV.str (tx [10])]) ∈ _ from by walk_at "mm")) ?_ ?_
  · intro d x r hxs E'
    have hx : x = [] ∨ x = [10] := by
      have : x ∈ [[], [10]] := by rw [hxs]; simp
      simpa using this
    rcases hx with rfl | rfl
    · repeat' walk_at "aw"
      exact ⟨_, if_pos (sub_nil sg), by walk_at "sb", by walk_at "ls"⟩
    · repeat' walk_at "aw"
      · rename_i hn
        exact ⟨_, if_pos (by rw [sub_one]; exact decide_eq_true hn), by walk_at "sb", by walk_at "ls"⟩
      · rename_i hn
        exact ⟨_, if_neg (by rw [sub_one]; simpa using hn), by walk_at "sb", by walk_at "ls"⟩
  intro ρ₅
  rw [fm_sub, show List.filter (sub sg) [[], [10]] = ends5 sg from rfl]
  repeat' walk_at "aw"
  refine ex_cons ?_
  repeat' walk_at "aw"
  rename_i X
  rw [← List.map_append]
  have hhl := heads5_len sg
  have hcl := colons5_len sg
  have hel := ends5_len sg
  refine it_list (by walk_at "mm") fun J1 => ?_
  refine AFor.to (ρ' := [(Str.ofString "twos", .ref T), (Str.ofString "seconds", .ref dd), (Str.ofString "heads", .ref H), (Str.ofString "colons", .ref K), (Str.ofString "ends", .ref N)]) (σ' := (J1, literO X 0) :: (dd, dictO C.prog C.w kv0) :: (X, .list ((figT sg ++ twosT sg).map fun t => AV.str (tx t))) :: (N, .list ((ends5 sg).map fun t => AV.str (tx t))) :: (K, .list ((colons5 sg).map fun t => AV.str (tx t))) :: (H, .list ((heads5 sg).map fun t => AV.str (tx t))) :: (T, .list ((twosT sg).map fun t => AV.str (tx t))) :: σ) ?_ (by walk_at "sb") (by walk_at "ls")
  refine for_indA (fun t => .str (tx t)) (figT sg ++ twosT sg) (iter_list (a := X) hh) (fun d r ρ σ' => ∃ kvs, Inv5 kvs (tzNames ++ d.flatMap fun h => ([] :: twosT sg).flatMap fun m => (colons5 sg).flatMap fun c => (ends5 sg).flatMap fun e => (heads5 sg).map fun hd => key5 hd h c m e) (4 + 10000 * d.length) ∧ ρ = [(Str.ofString "twos", .ref T), (Str.ofString "seconds", .ref dd), (Str.ofString "heads", .ref H), (Str.ofString "colons", .ref K), (Str.ofString "ends", .ref N)] ∧ σ' = (dd, dictO C.prog C.w kvs) :: (X, .list ((figT sg ++ twosT sg).map fun t => AV.str (tx t))) :: (N, .list ((ends5 sg).map fun t => AV.str (tx t))) :: (K, .list ((colons5 sg).map fun t => AV.str (tx t))) :: (H, .list ((heads5 sg).map fun t => AV.str (tx t))) :: (T, .list ((twosT sg).map fun t => AV.str (tx t))) :: σ) ?_ ?step1 ?_ ?_
  case step1 =>
    rintro d h1 r ρ σ' hxs ⟨kvs, I1, rfl, rfl⟩
    have hh1 : h1 ∈ figT sg ++ twosT sg := by rw [hxs]; simp
    have hdl : d.length ≤ 110 := by
      have := congrArg List.length hxs
      simp at this; omega
    generalize hS1 : (tzNames ++ d.flatMap fun h => ([] :: twosT sg).flatMap fun m => (colons5 sg).flatMap fun c => (ends5 sg).flatMap fun e => (heads5 sg).map fun hd => key5 hd h c m e) = S1 at I1
    generalize hB1 : 4 + 10000 * d.length = B1 at I1
    obtain ⟨n1, n2, n3⟩ := nums_of hh1
    repeat' walk_at "aw"
    refine ex_cons ?_
    repeat' walk_at "aw"
    rename_i rY Y
    rw [show [AV.str (tx [])] ++ ((twosT sg).map fun t => AV.str (tx t)) = ([] :: twosT sg).map fun t => AV.str (tx t) from rfl]
    refine it_list (by walk_at "mm") fun J2 => ?_
    refine AFor.to (ρ' := [(Str.ofString "twos", .ref T), (Str.ofString "seconds", .ref dd), (Str.ofString "heads", .ref H), (Str.ofString "colons", .ref K), (Str.ofString "ends", .ref N), (Str.ofString "hours", .str (tx h1))]) (σ' := (J2, literO Y 0) :: (dd, dictO C.prog C.w kvs) :: (Y, .list (([] :: twosT sg).map fun t => AV.str (tx t))) :: (J1, literO X (d.length + 1)) :: (X, .list ((figT sg ++ twosT sg).map fun t => AV.str (tx t))) :: (N, .list ((ends5 sg).map fun t => AV.str (tx t))) :: (K, .list ((colons5 sg).map fun t => AV.str (tx t))) :: (H, .list ((heads5 sg).map fun t => AV.str (tx t))) :: (T, .list ((twosT sg).map fun t => AV.str (tx t))) :: σ) ?_ (by walk_at "sb") (by walk_at "ls")
    refine for_indA (fun t => .str (tx t)) ([] :: twosT sg) (iter_list (a := Y) hh) (fun d2 r2 ρ σ' => ∃ kvs, Inv5 kvs (S1 ++ d2.flatMap fun m => (colons5 sg).flatMap fun c => (ends5 sg).flatMap fun e => (heads5 sg).map fun hd => key5 hd h1 c m e) (B1 + 50 * d2.length) ∧ ρ = [(Str.ofString "twos", .ref T), (Str.ofString "seconds", .ref dd), (Str.ofString "heads", .ref H), (Str.ofString "colons", .ref K), (Str.ofString "ends", .ref N), (Str.ofString "hours", .str (tx h1))] ∧ σ' = (dd, dictO C.prog C.w kvs) :: (Y, .list (([] :: twosT sg).map fun t => AV.str (tx t))) :: (J1, literO X (d.length + 1)) :: (X, .list ((figT sg ++ twosT sg).map fun t => AV.str (tx t))) :: (N, .list ((ends5 sg).map fun t => AV.str (tx t))) :: (K, .list ((colons5 sg).map fun t => AV.str (tx t))) :: (H, .list ((heads5 sg).map fun t => AV.str (tx t))) :: (T, .list ((twosT sg).map fun t => AV.str (tx t))) :: σ) ?_ ?step2 ?_ ?_
    case step2 =>
      rintro d2 m1 r2 ρ σ' hxs2 ⟨kvs2, I2, rfl, rfl⟩
      have hm1 : m1 ∈ [] :: twosT sg := by rw [hxs2]; simp
      have hdl2 : d2.length ≤ 101 := by
        have := congrArg List.length hxs2
        simp at this; omega
      generalize hS2 : (S1 ++ d2.flatMap fun m => (colons5 sg).flatMap fun c => (ends5 sg).flatMap fun e => (heads5 sg).map fun hd => key5 hd h1 c m e) = S2 at I2
      generalize hB2 : B1 + 50 * d2.length = B2 at I2
      obtain ⟨m2, m3⟩ := nums_of2 hm1
      repeat' walk_at "aw"
      refine b_int_text n3 n1 (by omega) ?_
      repeat' walk_at "aw"
      refine b_int_text (l := [48] ++ m1) (fun c hc => ?_) (by simp) (by simp; omega) ?_
      · rcases List.mem_cons.mp hc with rfl | hc
        · omega
        · exact m3 c hc
      repeat' walk_at "aw"
      rw [show 60 * (60 * List.foldl (fun (a : Int) (c : Nat) => 10 * a + ((c : Int) - 48)) 0 h1 + List.foldl (fun (a : Int) (c : Nat) => 10 * a + ((c : Int) - 48)) 0 ([48] ++ m1)) = size5 h1 m1 from rfl]
      refine ex_cons ?_
      repeat' walk_at "aw"
      refine it_list (by walk_at "mm") fun J3 => ?_
      refine AFor.to (ρ' := [(Str.ofString "twos", .ref T), (Str.ofString "seconds", .ref dd), (Str.ofString "heads", .ref H), (Str.ofString "colons", .ref K), (Str.ofString "ends", .ref N), (Str.ofString "hours", .str (tx h1)), (Str.ofString "minutes", .str (tx m1)), (Str.ofString "size", .int (size5 h1 m1))]) (σ' := (J3, literO K 0) :: (dd, dictO C.prog C.w kvs2) :: (J2, literO Y (d2.length + 1)) :: (Y, .list (([] :: twosT sg).map fun t => AV.str (tx t))) :: (J1, literO X (d.length + 1)) :: (X, .list ((figT sg ++ twosT sg).map fun t => AV.str (tx t))) :: (N, .list ((ends5 sg).map fun t => AV.str (tx t))) :: (K, .list ((colons5 sg).map fun t => AV.str (tx t))) :: (H, .list ((heads5 sg).map fun t => AV.str (tx t))) :: (T, .list ((twosT sg).map fun t => AV.str (tx t))) :: σ) ?_ (by walk_at "sb") (by walk_at "ls")
      refine for_indA (fun t => .str (tx t)) (colons5 sg) (iter_list (a := K) hh) (fun d3 r3 ρ σ' => ∃ kvs, Inv5 kvs (S2 ++ d3.flatMap fun c => (ends5 sg).flatMap fun e => (heads5 sg).map fun hd => key5 hd h1 c m1 e) (B2 + 20 * d3.length) ∧ ρ = [(Str.ofString "twos", .ref T), (Str.ofString "seconds", .ref dd), (Str.ofString "heads", .ref H), (Str.ofString "colons", .ref K), (Str.ofString "ends", .ref N), (Str.ofString "hours", .str (tx h1)), (Str.ofString "minutes", .str (tx m1)), (Str.ofString "size", .int (size5 h1 m1))] ∧ σ' = (dd, dictO C.prog C.w kvs) :: (J2, literO Y (d2.length + 1)) :: (Y, .list (([] :: twosT sg).map fun t => AV.str (tx t))) :: (J1, literO X (d.length + 1)) :: (X, .list ((figT sg ++ twosT sg).map fun t => AV.str (tx t))) :: (N, .list ((ends5 sg).map fun t => AV.str (tx t))) :: (K, .list ((colons5 sg).map fun t => AV.str (tx t))) :: (H, .list ((heads5 sg).map fun t => AV.str (tx t))) :: (T, .list ((twosT sg).map fun t => AV.str (tx t))) :: σ) ?_ ?step3 ?_ ?_
      case step3 =>
        rintro d3 cc r3 ρ σ' hxs3 ⟨kvs3, I3', rfl, rfl⟩
        have hcc : cc ∈ colons5 sg := by rw [hxs3]; simp
        have hccl : cc.length ≤ 1 := by rcases colons5_mem hcc with rfl | rfl <;> simp
        have hdl3 : d3.length ≤ 2 := by
          have := congrArg List.length hxs3
          simp at this; omega
        generalize hS3 : (S2 ++ d3.flatMap fun c => (ends5 sg).flatMap fun e => (heads5 sg).map fun hd => key5 hd h1 c m1 e) = S3 at I3'
        generalize hB3 : B2 + 20 * d3.length = B3 at I3'
        repeat' walk_at "aw"
        refine ex_cons ?_
        repeat' walk_at "aw"
        refine it_list (by walk_at "mm") fun J4 => ?_
        refine AFor.to (ρ' := [(Str.ofString "twos", .ref T), (Str.ofString "seconds", .ref dd), (Str.ofString "heads", .ref H), (Str.ofString "colons", .ref K), (Str.ofString "ends", .ref N), (Str.ofString "hours", .str (tx h1)), (Str.ofString "minutes", .str (tx m1)), (Str.ofString "size", .int (size5 h1 m1)), (Str.ofString "colon", .str (tx cc))]) (σ' := (J4, literO N 0) :: (dd, dictO C.prog C.w kvs3) :: (J3, literO K (d3.length + 1)) :: (J2, literO Y (d2.length + 1)) :: (Y, .list (([] :: twosT sg).map fun t => AV.str (tx t))) :: (J1, literO X (d.length + 1)) :: (X, .list ((figT sg ++ twosT sg).map fun t => AV.str (tx t))) :: (N, .list ((ends5 sg).map fun t => AV.str (tx t))) :: (K, .list ((colons5 sg).map fun t => AV.str (tx t))) :: (H, .list ((heads5 sg).map fun t => AV.str (tx t))) :: (T, .list ((twosT sg).map fun t => AV.str (tx t))) :: σ) ?_ (by walk_at "sb") (by walk_at "ls")
        refine for_indA (fun t => .str (tx t)) (ends5 sg) (iter_list (a := N) hh) (fun d4 r4 ρ σ' => ∃ kvs, Inv5 kvs (S3 ++ d4.flatMap fun e => (heads5 sg).map fun hd => key5 hd h1 cc m1 e) (B3 + 8 * d4.length) ∧ ρ = [(Str.ofString "twos", .ref T), (Str.ofString "seconds", .ref dd), (Str.ofString "heads", .ref H), (Str.ofString "colons", .ref K), (Str.ofString "ends", .ref N), (Str.ofString "hours", .str (tx h1)), (Str.ofString "minutes", .str (tx m1)), (Str.ofString "size", .int (size5 h1 m1)), (Str.ofString "colon", .str (tx cc))] ∧ σ' = (dd, dictO C.prog C.w kvs) :: (J3, literO K (d3.length + 1)) :: (J2, literO Y (d2.length + 1)) :: (Y, .list (([] :: twosT sg).map fun t => AV.str (tx t))) :: (J1, literO X (d.length + 1)) :: (X, .list ((figT sg ++ twosT sg).map fun t => AV.str (tx t))) :: (N, .list ((ends5 sg).map fun t => AV.str (tx t))) :: (K, .list ((colons5 sg).map fun t => AV.str (tx t))) :: (H, .list ((heads5 sg).map fun t => AV.str (tx t))) :: (T, .list ((twosT sg).map fun t => AV.str (tx t))) :: σ) ?_ ?step4 ?_ ?_
        case step4 =>
          rintro d4 ee r4 ρ σ' hxs4 ⟨kvs4, I4', rfl, rfl⟩
          have hee : ee ∈ ends5 sg := by rw [hxs4]; simp
          have heel : ee.length ≤ 1 := by rcases ends5_mem hee with rfl | rfl <;> simp
          have hdl4 : d4.length ≤ 2 := by
            have := congrArg List.length hxs4
            simp at this; omega
          generalize hS4 : (S3 ++ d4.flatMap fun e => (heads5 sg).map fun hd => key5 hd h1 cc m1 e) = S4 at I4'
          generalize hB4 : B3 + 8 * d4.length = B4 at I4'
          repeat' walk_at "aw"
          refine ex_cons ?_
          repeat' walk_at "aw"
          refine it_list (by walk_at "mm") fun J5 => ?_
          refine AFor.to (ρ' := [(Str.ofString "twos", .ref T), (Str.ofString "seconds", .ref dd), (Str.ofString "heads", .ref H), (Str.ofString "colons", .ref K), (Str.ofString "ends", .ref N), (Str.ofString "hours", .str (tx h1)), (Str.ofString "minutes", .str (tx m1)), (Str.ofString "size", .int (size5 h1 m1)), (Str.ofString "colon", .str (tx cc)), (Str.ofString "end", .str (tx ee))]) (σ' := (J5, literO H 0) :: (dd, dictO C.prog C.w kvs4) :: (J4, literO N (d4.length + 1)) :: (J3, literO K (d3.length + 1)) :: (J2, literO Y (d2.length + 1)) :: (Y, .list (([] :: twosT sg).map fun t => AV.str (tx t))) :: (J1, literO X (d.length + 1)) :: (X, .list ((figT sg ++ twosT sg).map fun t => AV.str (tx t))) :: (N, .list ((ends5 sg).map fun t => AV.str (tx t))) :: (K, .list ((colons5 sg).map fun t => AV.str (tx t))) :: (H, .list ((heads5 sg).map fun t => AV.str (tx t))) :: (T, .list ((twosT sg).map fun t => AV.str (tx t))) :: σ) ?_ (by walk_at "sb") (by walk_at "ls")
          refine for_indA (fun t => .str (tx t)) (heads5 sg) (iter_list (a := H) hh) (fun d5 r5 ρ σ' => ∃ kvs, Inv5 kvs (S4 ++ d5.map fun hd => key5 hd h1 cc m1 ee) (B4 + d5.length) ∧ ρ = [(Str.ofString "twos", .ref T), (Str.ofString "seconds", .ref dd), (Str.ofString "heads", .ref H), (Str.ofString "colons", .ref K), (Str.ofString "ends", .ref N), (Str.ofString "hours", .str (tx h1)), (Str.ofString "minutes", .str (tx m1)), (Str.ofString "size", .int (size5 h1 m1)), (Str.ofString "colon", .str (tx cc)), (Str.ofString "end", .str (tx ee))] ∧ σ' = (dd, dictO C.prog C.w kvs) :: (J4, literO N (d4.length + 1)) :: (J3, literO K (d3.length + 1)) :: (J2, literO Y (d2.length + 1)) :: (Y, .list (([] :: twosT sg).map fun t => AV.str (tx t))) :: (J1, literO X (d.length + 1)) :: (X, .list ((figT sg ++ twosT sg).map fun t => AV.str (tx t))) :: (N, .list ((ends5 sg).map fun t => AV.str (tx t))) :: (K, .list ((colons5 sg).map fun t => AV.str (tx t))) :: (H, .list ((heads5 sg).map fun t => AV.str (tx t))) :: (T, .list ((twosT sg).map fun t => AV.str (tx t))) :: σ) ?_ ?step5 ?_ ?_
          case step5 =>
            rintro d5 hd r5 ρ σ' hxs5 ⟨kvs5, I5', rfl, rfl⟩
            have hhd : hd ∈ heads5 sg := by rw [hxs5]; simp
            have hhdl : hd.length ≤ 1 := by rcases heads5_mem hhd with rfl | rfl | rfl <;> simp
            have hkl : kvs5.length ≤ sizeLine := by
              have := I5'.len
              have : d5.length ≤ 3 := by
                have := congrArg List.length hxs5
                simp at this; omega
              rw [sizeLine_eq]; omega
            have hv := val_of hhd hh1 hcc hm1 hee
            have I6 := I5'.put hv
            unfold key5 val5 at I6
            repeat' walk_at "aw"
            · rename_i hm
              rw [if_pos hm] at I6
              exact ⟨_, _, ⟨_, I6.mono (fun k hk => by rw [List.map_append, ← List.append_assoc] at hk; exact hk) (by simp; omega), rfl, rfl⟩, by walk_at "sb", by walk_at "ls"⟩
            · rename_i hm
              rw [if_neg hm] at I6
              exact ⟨_, _, ⟨_, I6.mono (fun k hk => by rw [List.map_append, ← List.append_assoc] at hk; exact hk) (by simp; omega), rfl, rfl⟩, by walk_at "sb", by walk_at "ls"⟩
          · rintro d r ρ σ' ⟨kvs, _, _, rfl⟩
            exact .inl (by walk_at "mm")
          · rintro ρ σ' ⟨kvs', I', rfl, rfl⟩
            repeat' walk_at "aw"
            refine ⟨_, _, ⟨kvs', I'.mono (fun k hk => ?_) (by simp; omega), rfl, rfl⟩, by walk_at "sb", by walk_at "ls"⟩
            rw [List.flatMap_append, List.flatMap_singleton, ← List.append_assoc, hS4] at hk
            exact hk
          · exact ⟨_, I4'.mono (by simp) (by simp), rfl, rfl⟩
        · rintro d r ρ σ' ⟨kvs, _, _, rfl⟩
          exact .inl (by walk_at "mm")
        · rintro ρ σ' ⟨kvs', I', rfl, rfl⟩
          repeat' walk_at "aw"
          refine ⟨_, _, ⟨kvs', I'.mono (fun k hk => ?_) (by simp; omega), rfl, rfl⟩, by walk_at "sb", by walk_at "ls"⟩
          rw [List.flatMap_append, List.flatMap_singleton, ← List.append_assoc, hS3] at hk
          exact hk
        · exact ⟨_, I3'.mono (by simp) (by simp), rfl, rfl⟩
      · rintro d r ρ σ' ⟨kvs, _, _, rfl⟩
        exact .inl (by walk_at "mm")
      · rintro ρ σ' ⟨kvs', I', rfl, rfl⟩
        repeat' walk_at "aw"
        refine ⟨_, _, ⟨kvs', I'.mono (fun k hk => ?_) (by simp; omega), rfl, rfl⟩, by walk_at "sb", by walk_at "ls"⟩
        rw [List.flatMap_append, List.flatMap_singleton, ← List.append_assoc, hS2] at hk
        exact hk
      · exact ⟨_, I2.mono (by simp) (by simp), rfl, rfl⟩
    · rintro d r ρ σ' ⟨kvs, _, _, rfl⟩
      exact .inl (by walk_at "mm")
    · rintro ρ σ' ⟨kvs', I', rfl, rfl⟩
      repeat' walk_at "aw"
      refine ⟨_, _, ⟨kvs', I'.mono (fun k hk => ?_) (by simp; omega), rfl, rfl⟩, by walk_at "sb", by walk_at "ls"⟩
      rw [List.flatMap_append, List.flatMap_singleton, ← List.append_assoc, hS1] at hk
      exact hk
    · exact ⟨_, I1.mono (by simp) (by simp), rfl, rfl⟩
  · rintro d r ρ σ' ⟨kvs, _, _, rfl⟩
    exact .inl (by walk_at "mm")
  · rintro ρ σ' ⟨kvs', I', rfl, rfl⟩
    repeat' walk_at "aw"
    exact ⟨[], (dd, dictO C.prog C.w kvs') :: σ, by walk_at "sb", LocSub.nil, h dd kvs' _ _ hlo I'⟩
  · exact ⟨_, I0.mono (by simp) (by simp), rfl, rfl⟩
theorem list_call {C : Cx} {E : Value → Shared → Prop} {env : Env} {n : Nat} {f : Addr} {sg : List Nat} {ρ : Loc} {σ : Sto} {Q : AV → Loc → Sto → Prop} (O : C.Ok env (n + 2)) (F : Fn C.K pw "_law_list" f) (b1 : nsIn C.K mainGlobals (Str.ofString "int") = some none)
    (hl : sg.length = 4) (h : ∀ d kvs N, (d == sysModules) = false → Inv5 kvs (all5 sg) N → Q (.ref d) ρ ((d, dictO C.prog C.w kvs) :: σ)) :
    ACall C E (.ref f) [.str (tx sg)] Q ρ σ :=
  b_fnC (names := [Str.ofString "signs"]) (locs := []) (cls := fun L => [(Str.ofString "figures", L + 2), (Str.ofString "signs", L + 1)]) (cs := fun L => [(L + 2, .cell none), (L + 1, .cell (some (.str (tx sg))))]) O F
    (by intro qual pm cdv vs hv; match vs, hv with | [v], _ => rfl) (by decide) (by intro n y hy; rcases List.mem_singleton.mp hy; exact .inr ⟨by kernel_rfl, by kernel_rfl⟩) (by decide +kernel) (by kernel_rfl) (by intro L; kernel_rfl) (by intro L; kernel_rfl) (by kernel_rfl) (by kernel_rfl) (by kernel_rfl)
    fun C' qual cdv E' hK hP hw _ hst O' => list_body rfl O' (by rw [hK]; exact b1) hl fun d kvs N ρ' h1 h2 => by rw [hP, hw]; exact h d kvs N h1 h2
theorem getD_mem {l : List Nat} {i : Nat} (h : i < l.length) : l.getD i 0 ∈ l := by
  rw [List.getD, List.getElem?_eq_getElem h]
  exact List.getElem_mem _
theorem law_body {C : Cx} {E : Value → Shared → Prop} {sc : Scope} {q : Str} {f : Addr} {cd : Value} {a f1 f2 f3 da pa : Addr} {ns : List Int} {n : Nat}
    (hsc : sc = fnScope pw "law") (O : C.Ok (envX q sc C.L f cd []) (n + 3)) (hb : BaseL C a (ns.map .int)) (hl : ns.length ≤ 63)
    (F1 : Fn C.K pw "offset_from_tz_string" f1) (F2 : Fn C.K pw "_law_signs" f2) (F3 : Fn C.K pw "_law_list" f3)
    (Z : Zn C.K C.w.params "UTC_ZONES" da tzNames) (P : Pat C.K "TIMEZONE_RE" pa tzc 3)
    (B : Bn C.K ["int", "abs", "sum", "range", "len", "chr"]) :
    AW RF C E (execs (fnBody pw "law") (envX q sc C.L f cd [])) (fun fl _ _ => fl = .ret (.bool true)) [(Str.ofString "script", .ref a)] [] := by
  have hk : sc.kind = .function := by subst hsc; kernel_rfl
  have k1 : sc.names.lookup (Str.ofString "script") = some .local := by subst hsc; kernel_rfl
  have k2 : sc.names.lookup (Str.ofString "signs") = some .local := by subst hsc; kernel_rfl
  have k3 : sc.names.lookup (Str.ofString "seconds") = some .local := by subst hsc; kernel_rfl
  have k4 : sc.names.lookup (Str.ofString "number") = some .local := by subst hsc; kernel_rfl
  have k5 : sc.names.lookup (Str.ofString "word") = some .local := by subst hsc; kernel_rfl
  have k6 : sc.names.lookup (Str.ofString "text") = some .local := by subst hsc; kernel_rfl
  have k7 : sc.names.lookup (Str.ofString "_law_signs") = some .globalImplicit := by subst hsc; kernel_rfl
  have k8 : sc.names.lookup (Str.ofString "_law_list") = some .globalImplicit := by subst hsc; kernel_rfl
  have k9 : sc.names.lookup (Str.ofString "range") = some .globalImplicit := by subst hsc; kernel_rfl
  have k10 : sc.names.lookup (Str.ofString "offset_from_tz_string") = some .globalImplicit := by subst hsc; kernel_rfl
  clear hsc
  have G := O.gl
  have hh := O.hh
  have z1 := F1.glob
  have z2 := F2.glob
  have z3 := F3.glob
  have y1 := F1.keep
  have y2 := F2.keep
  have y3 := F3.keep
  have b1 : nsIn C.K mainGlobals (Str.ofString "int") = some none := B _ (by simp)
  have b2 : nsIn C.K mainGlobals (Str.ofString "range") = some none := B _ (by simp)
  have B1 : Bn C.K ["abs", "sum", "range", "len", "chr"] := fun n hn => B n (by simp at hn ⊢; rcases hn with rfl | rfl | rfl | rfl | rfl <;> simp)
  have q9 : Str.ofString "" = tx [] := by decide
  conv =>
    pattern fnBody _ _
    whnf
  repeat' walk_at "aw"
  refine signs_call O F2 B1 hb hl fun sg hsl hsc => ?_
  repeat' walk_at "aw"
  refine list_call O F3 b1 hsl fun dd kvs N hlo I => ?_
  repeat' walk_at "aw"
  refine ex_cons ?_
  repeat' walk_at "aw"
  rename_i R
  refine it_rng (n := 31) (by walk_at "mm") (by decide) (by omega) (by omega) (by omega) (by omega) fun I1 => ?_
  refine for_ind (iter_rng (x := 1) (n := 31) hh) (fun d r ρ σ' => ρ = [(Str.ofString "script", .ref a), (Str.ofString "signs", .str (tx sg)), (Str.ofString "seconds", .ref dd)] ∧ σ' = [(R, rangeO 1 32), (dd, dictO C.prog C.w kvs)]) ?_ ?step1 ?_ ⟨rfl, rfl⟩
  case step1 =>
    rintro d v r ρ σ' hxs ⟨rfl, rfl⟩
    obtain ⟨rfl, hd⟩ := rng_split hxs
    repeat' walk_at "aw"
    refine ex_seq (fun ρ σ' => ∃ (w : List Nat) (k : Int), w.length ≤ 31 ∧ (∀ c ∈ w, c ∈ sg) ∧ ρ = [(Str.ofString "script", .ref a), (Str.ofString "signs", .str (tx sg)), (Str.ofString "seconds", .ref dd), (Str.ofString "number", .int k), (Str.ofString "word", .str (tx w))] ∧ σ' = [(I1, rit 1 31 (d.length + 1)), (R, rangeO 1 32), (dd, dictO C.prog C.w kvs)]) ?_ ?_
    · walk_at "aw"
      refine while_ind (fun m ρ σ' => ∃ (w : List Nat) (k : Int), 1 ≤ k ∧ m = k.toNat ∧ w.length + m ≤ 31 ∧ (∀ c ∈ w, c ∈ sg) ∧ ρ = [(Str.ofString "script", .ref a), (Str.ofString "signs", .str (tx sg)), (Str.ofString "seconds", .ref dd), (Str.ofString "number", .int k), (Str.ofString "word", .str (tx w))] ∧ σ' = [(I1, rit 1 31 (d.length + 1)), (R, rangeO 1 32), (dd, dictO C.prog C.w kvs)]) (1 + (d.length : Int)).toNat ?_ ⟨[], 1 + (d.length : Int), by omega, rfl, by simp; omega, by simp, rfl, rfl⟩
      rintro m ρ σ' ⟨w, k, hk1, rfl, hwl, hwc, rfl, rfl⟩
      have hwl' : w.length ≤ 31 := by omega
      repeat' walk_at "aw"
      · refine ⟨(k / 2).toNat, _, _, by omega, ⟨w ++ [sg.getD (1 + k % 2).toNat 0], k / 2, by omega, rfl, by simp; omega, fun c hc => ?_, rfl, rfl⟩, by walk_at "sb", by walk_at "ls"⟩
        rcases List.mem_append.mp hc with hc | hc
        · exact hwc c hc
        · rw [List.mem_singleton.mp hc]
          exact getD_mem (by omega)
      · exact ⟨_, _, ⟨w, k, hwl', hwc, rfl, rfl⟩, by walk_at "sb", by walk_at "ls"⟩
    rintro ρ σ' ⟨w, k, hwl, hwc, rfl, rfl⟩
    refine ex_cons ?_
    repeat' walk_at "aw"
    rename_i lT
    have hs0 : sg.getD (Int.toNat 0) 0 ∈ sg := getD_mem (by omega)
    have hs3 : sg.getD (Int.toNat 3) 0 ∈ sg := getD_mem (by omega)
    generalize sg.getD (Int.toNat 0) 0 = s0 at *
    generalize sg.getD (Int.toNat 3) 0 = s3 at *
    refine it_list (by walk_at "mm") fun I2 => ?_
    refine for_indA (fun t => .str (tx t)) [w, [s0] ++ w, w ++ [s3], [s0] ++ w ++ [s3]] (iter_list (a := lT) hh) (fun d2 r2 ρ σ' => ρ = [(Str.ofString "script", .ref a), (Str.ofString "signs", .str (tx sg)), (Str.ofString "seconds", .ref dd), (Str.ofString "number", .int k), (Str.ofString "word", .str (tx w))] ∧ σ' = [(lT, .list [.str (tx w), .str (tx ([s0] ++ w)), .str (tx (w ++ [s3])), .str (tx ([s0] ++ w ++ [s3]))]), (I1, rit 1 31 (d.length + 1)), (R, rangeO 1 32), (dd, dictO C.prog C.w kvs)]) ?_ ?step2 ?_ ⟨rfl, rfl⟩
    case step2 =>
      rintro d2 t r2 ρ σ' hxs2 ⟨rfl, rfl⟩
      have ht : (∀ c ∈ t, c ∈ sg) ∧ t.length ≤ 40 := by
        have : t ∈ [w, [s0] ++ w, w ++ [s3], [s0] ++ w ++ [s3]] := by rw [hxs2]; simp
        simp only [List.mem_cons, List.not_mem_nil, or_false] at this
        rcases this with rfl | rfl | rfl | rfl
        · exact ⟨hwc, by omega⟩
        · refine ⟨fun c hc => ?_, by simp; omega⟩
          simp at hc
          rcases hc with rfl | hc
          · exact hs0
          · exact hwc c hc
        · refine ⟨fun c hc => ?_, by simp; omega⟩
          simp at hc
          rcases hc with hc | rfl
          · exact hwc c hc
          · exact hs3
        · refine ⟨fun c hc => ?_, by simp; omega⟩
          simp at hc
          rcases hc with rfl | hc | rfl
          · exact hs0
          · exact hwc c hc
          · exact hs3
      have hg := I.get ht.1
      have htl := ht.2
      repeat' walk_at "aw"
      refine tz_call O F1 Z P b1 (by omega) ?_
      repeat' walk_at "aw"
      rw [hg]
      refine c_ne_opt O ?_
      repeat' walk_at "aw"
      · rename_i hn; exact absurd rfl hn
      · exact ⟨_, _, ⟨rfl, rfl⟩, by walk_at "sb", by walk_at "ls"⟩
    · rintro d2 r2 ρ σ' ⟨_, rfl⟩
      exact .inl (show (lT, AO.list [.str (tx w), .str (tx ([s0] ++ w)), .str (tx (w ++ [s3])), .str (tx ([s0] ++ w ++ [s3]))]) ∈ _ from by walk_at "mm")
    · rintro ρ σ' ⟨rfl, rfl⟩
      repeat' walk_at "aw"
      exact ⟨_, _, ⟨rfl, rfl⟩, by walk_at "sb", by walk_at "ls"⟩
  · exact fun _ _ _ _ _ => trivial
  · rintro ρ σ' ⟨rfl, rfl⟩
    repeat' walk_at "aw"
end Mine
open PySem PySem.W PyProof.Rows
set_option maxHeartbeats 8000000 in
theorem PySem.Challenge.cw_dm0150_05_holds : PySem.Challenge.rw_dm0150_05.Holds := by
  w_on
  o_law
  k_head
  (case hw => w_witness2)
  k_go0
  rename Frag.In _ _ => KX
  rename Top _ _ _ _ _ _ => T
  rename Below _ _ _ _ => B0
  rename Heap.IsList _ _ _ => hL
  rename IntsAre _ _ => hI
  rename Fr _ _ _ _ => F
  rename News _ _ _ _ => N0
  refine Mine.law_wq Mine.pw (fun L => []) (fun L => []) KX T B0 hL hI F N0 (by kernel_rfl) (by kernel_rfl) (by kernel_rfl) (by with_unfolding_all rfl) ?hs (by simp) (by kernel_rfl) ?law ?hQ
  case hs =>
    intro p hp
    cases hp
  case law =>
    intro C hK hw O hb
    refine Mine.law_body (f1 := 44) (f2 := 49) (f3 := 54) (da := 32) (pa := 37) rfl O hb (by omega) ?_ ?_ ?_ ?_ ?_ ?_
    · rw [hK]; exact Mine.fn_of (by kernel_rfl) (by kernel_rfl) (by kernel_rfl) (by kernel_rfl)
    · rw [hK]; exact Mine.fn_of (by kernel_rfl) (by kernel_rfl) (by kernel_rfl) (by kernel_rfl)
    · rw [hK]; exact Mine.fn_of (by kernel_rfl) (by kernel_rfl) (by kernel_rfl) (by kernel_rfl)
    · rw [hK, hw]; exact Mine.zn_of (by kernel_rfl) (by decide) (by kernel_rfl) ⟨⟨_, _, rfl, rfl⟩, ⟨_, _, rfl, rfl⟩, ⟨_, _, rfl, rfl⟩, ⟨_, _, rfl, rfl⟩, trivial⟩ (by kernel_rfl)
    · rw [hK]; exact Mine.pat_of (by kernel_rfl) (by kernel_rfl) (by kernel_rfl) (by kernel_rfl)
    · rw [hK]; exact Mine.bn_cons (by kernel_rfl) (Mine.bn_cons (by kernel_rfl) (Mine.bn_cons (by kernel_rfl) (Mine.bn_cons (by kernel_rfl) (Mine.bn_cons (by kernel_rfl) (Mine.bn_cons (by kernel_rfl) Mine.bn_nil)))))
  case hQ =>
    intro h tk m F'
    dsimp only
    wrow_close
