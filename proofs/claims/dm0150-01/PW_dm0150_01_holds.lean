import PyProof.Rows.All
import Wide.All
import OpenK.AllK
import Wide.FinOn
import PySem.Challenge.RW_dm0150_01
set_option maxRecDepth 100000
set_option Elab.async false
set_option linter.all false
set_option maxHeartbeats 4000000
namespace Mine
open PySem PySem.W PySem.Spec PySem.Calls PyProof.Rows

/-- abstract values: values without tokens -/
inductive AV where
  | none
  | bool (b : Bool)
  | int (i : Int)
  | str (s : Str)
  | bytes (b : Array UInt8)
  | ref (a : Addr)
  | val (v : Value)

def RV : AV → Value → Prop
  | .none, v => v = .none
  | .bool b, v => v = .bool b
  | .int i, v => ∃ t, v = .int i t
  | .str s, v => ∃ t, v = .str s t
  | .bytes b, v => ∃ t, v = .bytes b t
  | .ref a, v => v = .ref a
  | .val x, v => v = x

inductive RVs : List AV → List Value → Prop
  | nil : RVs [] []
  | cons {a v as vs} : RV a v → RVs as vs → RVs (a :: as) (v :: vs)

theorem RVs.length {as vs} (h : RVs as vs) : vs.length = as.length := by
  induction h with
  | nil => rfl
  | cons _ _ ih => simp [ih]
theorem RVs.get {as vs} (h : RVs as vs) {i : Nat} {a : AV} (e : as[i]? = some a) : ∃ v, vs[i]? = some v ∧ RV a v := by
  induction h generalizing i with
  | nil => simp at e
  | @cons a' v' as' vs' h1 _ ih =>
    cases i with
    | zero => simp at e; subst e; exact ⟨_, rfl, h1⟩
    | succ i => simpa using ih (by simpa using e)
theorem RVs.get' {as vs} (h : RVs as vs) {i : Nat} {v : Value} (e : vs[i]? = some v) : ∃ a, as[i]? = some a ∧ RV a v := by
  induction h generalizing i with
  | nil => simp at e
  | @cons a' v' as' vs' h1 _ ih =>
    cases i with
    | zero => simp at e; subst e; exact ⟨_, rfl, h1⟩
    | succ i => simpa using ih (by simpa using e)
theorem RVs.append {as vs bs ws} (h : RVs as vs) (h' : RVs bs ws) : RVs (as ++ bs) (vs ++ ws) := by
  induction h with
  | nil => exact h'
  | cons h1 _ ih => exact .cons h1 ih
theorem RVs.one {a v} (h : RV a v) : RVs [a] [v] := .cons h .nil
theorem RVs.take {as vs} (h : RVs as vs) : ∀ n, RVs (as.take n) (vs.take n) := by
  induction h with
  | nil => intro n; simpa using RVs.nil
  | cons h1 _ ih => intro n; cases n with
    | zero => exact .nil
    | succ n => exact .cons h1 (ih n)
theorem RVs.drop {as vs} (h : RVs as vs) : ∀ n, RVs (as.drop n) (vs.drop n) := by
  induction h with
  | nil => intro n; simpa using RVs.nil
  | cons h1 h2 ih => intro n; cases n with
    | zero => exact .cons h1 h2
    | succ n => exact ih n
theorem RVs.set {as vs} (h : RVs as vs) {a : AV} {v : Value} (hv : RV a v) : ∀ n, RVs (as.set n a) (vs.set n v) := by
  induction h with
  | nil => intro n; simpa using RVs.nil
  | cons h1 h2 ih => intro n; cases n with
    | zero => exact .cons hv h2
    | succ n => exact .cons h1 (ih n)

abbrev Loc := List (Str × AV)

def LocOk (ρ : Loc) (m : Str → Option Value) : Prop := ∀ x v, ρ.lookup x = some v → ∃ v', m x = some v' ∧ RV v v'

/-- abstract objects -/
inductive AO where
  | list (xs : List AV)
  | tuple (xs : List AV)
  | cell (v : Option AV)
  | ns (ρ : Loc)
  | raw (o : Obj)
  | pred (P : Obj → Prop)

def RO : AO → Obj → Prop
  | .list xs, o => ∃ vs n, RVs xs vs ∧ o = { cls := .type "list", data := .seq vs.toArray n }
  | .tuple xs, o => ∃ vs n, RVs xs vs ∧ o = { cls := .type "tuple", data := .seq vs.toArray n }
  | .cell (some a), o => ∃ v, RV a v ∧ o.data = .cell (some v)
  | .cell none, o => ∃ v, o.data = .cell v
  | .ns ρ, o => ∃ m, LCg.NsObj o m ∧ LocOk ρ m
  | .raw o', o => o = o'
  | .pred P, o => P o

abbrev Sto := List (Addr × AO)

/-- the dynamic context of a frame -/
structure Cx where
  prog : Program
  w : World
  A : Around
  A₀ : Around
  base : Heap
  outer : List Env
  h₀ : Heap
  L : Addr
  s₀ : Shared
  K : Frag
  p : Program
  loose : List Str
  mg : Str → Option Value
  mb : Str → Option Value

structure Rel (C : Cx) (ρ : Loc) (σ : Sto) (s : Shared) : Prop where
  shape : ∃ h tk, s = { C.s₀ with heap := h, toks := tk }
  fr : ∃ m, Fr C.h₀ C.L s.heap m ∧ LocOk ρ m
  led : ∀ p ∈ σ, ∃ o, s.heap.get? p.1 = some o ∧ p.1 ≠ C.L ∧ C.h₀.get? p.1 = none ∧ RO p.2 o
  nd : (σ.map (·.1)).Nodup

def AW {α β : Type} (R : β → α → Prop) (C : Cx) (E : Value → Shared → Prop) (t : Sem α) (Q : β → Loc → Sto → Prop) (ρ : Loc) (σ : Sto) : Prop :=
  ∀ s, Rel C ρ σ s → wpAny (model C.prog C.w) C.A t (fun a s' => ∃ b ρ' σ', R b a ∧ Rel C ρ' σ' s' ∧ Q b ρ' σ') E s

/-- abstract flows -/
inductive AF where
  | next | brk | cont
  | ret (v : AV)
def RF : AF → Flow → Prop
  | .next, f => f = .next
  | .brk, f => f = .brk
  | .cont, f => f = .cont
  | .ret a, f => ∃ v, f = .ret v ∧ RV a v

section
variable {C : Cx} {E : Value → Shared → Prop} {ρ : Loc} {σ : Sto} {α β γ δ : Type} {s : Shared}

theorem Rel.toks (h : Rel C ρ σ s) (n : Nat) : Rel C ρ σ { s with toks := n } := by
  obtain ⟨⟨h', tk, e⟩, f, l, nd⟩ := h
  subst e
  exact ⟨⟨h', n, rfl⟩, f, l, nd⟩
theorem Rel.keeps (h : Rel C ρ σ s) {h' : Heap} (hk : ∀ b o, s.heap.get? b = some o → h'.get? b = some o) (n : Nat) : Rel C ρ σ { s with heap := h', toks := n } := by
  obtain ⟨⟨h'', tk, e⟩, ⟨m, F, l⟩, led, nd⟩ := h
  subst e
  refine ⟨⟨h', n, rfl⟩, ⟨m, ⟨F.ns.at' fun o e => hk _ o e, fun b o e => hk b o (F.keep b o e), F.above⟩, l⟩, fun p hp => ?_, nd⟩
  obtain ⟨o, e, r⟩ := led p hp
  exact ⟨o, hk _ _ e, r⟩
theorem Rel.fresh (h : Rel C ρ σ s) : C.h₀.get? s.heap.objs.size = none ∧ s.heap.objs.size ≠ C.L ∧ ∀ p ∈ σ, p.1 ≠ s.heap.objs.size := by
  obtain ⟨_, ⟨m, F, _⟩, led, _⟩ := h
  refine ⟨?_, ?_, fun p hp e => ?_⟩
  · cases hq : C.h₀.get? s.heap.objs.size with
    | none => rfl
    | some o' => exact absurd (Heap.lt_size (F.keep _ _ hq)) (Nat.lt_irrefl _)
  · exact Nat.ne_of_gt F.ns.lt
  · obtain ⟨o, e', _⟩ := led p hp
    have := Heap.lt_size e'
    rw [e] at this
    exact Nat.lt_irrefl _ this
theorem Rel.push (h : Rel C ρ σ s) {o : Obj} {ao : AO} (hr : RO ao o) (hf : o.isFreed = false) (n : Nat) : Rel C ρ ((s.heap.objs.size, ao) :: σ) { s with heap := s.heap.push o, toks := n } := by
  have hfr := h.fresh
  obtain ⟨a, b, led, nd⟩ := (h.keeps (h' := s.heap.push o) (fun b o e => Heap.get?_push_of_some _ e) n)
  refine ⟨a, b, fun p hp => ?_, ?_⟩
  · rcases List.mem_cons.mp hp with rfl | hp
    · exact ⟨o, Heap.get?_push_size _ hf, hfr.2.1, hfr.1, hr⟩
    · exact led p hp
  · rw [List.map_cons, List.nodup_cons]
    refine ⟨fun hm => ?_, nd⟩
    obtain ⟨p, hp, e⟩ := List.mem_map.mp hm
    exact hfr.2.2 p hp e
theorem Rel.sub (h : Rel C ρ σ s) {σ' : Sto} (hs : ∀ p ∈ σ', p ∈ σ) (nd : (σ'.map (·.1)).Nodup) : Rel C ρ σ' s :=
  ⟨h.shape, h.fr, fun p hp => h.led p (hs p hp), nd⟩
theorem Rel.loc (h : Rel C ρ σ s) {ρ' : Loc} (hs : ∀ x v, ρ'.lookup x = some v → ρ.lookup x = some v) : Rel C ρ' σ s := by
  obtain ⟨a, ⟨m, F, l⟩, b, c⟩ := h
  exact ⟨a, ⟨m, F, fun x v e => l x v (hs x v e)⟩, b, c⟩
/-- a heap that differs at one address of the store -/
theorem Rel.upd {pre post : Sto} {a : Addr} {ao ao' : AO} (h : Rel C ρ (pre ++ (a, ao) :: post) s) {h' : Heap} {o' : Obj} (hs : Heap.SameBut a s.heap h') (ho : h'.get? a = some o') (hr : RO ao' o') (n : Nat) :
    Rel C ρ (pre ++ (a, ao') :: post) { s with heap := h', toks := n } := by
  obtain ⟨⟨h'', tk, e⟩, ⟨m, F, l⟩, led, nd⟩ := h
  subst e
  obtain ⟨o, e1, e2, e3, _⟩ := led (a, ao) (List.mem_append_right _ (.head _))
  have nm : ∀ p ∈ pre ++ post, p.1 ≠ a := by
    intro p hp e
    simp only [List.map_append, List.map_cons] at nd
    have nd' := List.nodup_append.mp nd
    rcases List.mem_append.mp hp with hp | hp
    · exact nd'.2.2 p.1 (List.mem_map.mpr ⟨p, hp, rfl⟩) a (.head _) e
    · exact (List.nodup_cons.mp nd'.2.1).1 (e ▸ List.mem_map.mpr ⟨p, hp, rfl⟩)
  refine ⟨⟨h', n, rfl⟩, ⟨m, ⟨F.ns.sameBut hs (Ne.symm e2), fun b ob e => (hs.2 b (fun q => ?_)).trans (F.keep b ob e), F.above⟩, l⟩, fun p hp => ?_, ?_⟩
  · rw [q, e3] at e; cases e
  · rcases List.mem_append.mp hp with hp | hp
    · obtain ⟨o, x, r⟩ := led p (List.mem_append_left _ hp)
      exact ⟨o, (hs.2 _ (nm p (List.mem_append_left _ hp))).trans x, r⟩
    · rcases List.mem_cons.mp hp with rfl | hp
      · exact ⟨o', ho, e2, e3, hr⟩
      · obtain ⟨o, x, r⟩ := led p (List.mem_append_right _ (.tail _ hp))
        exact ⟨o, (hs.2 _ (nm p (List.mem_append_right _ hp))).trans x, r⟩
  · simpa using nd

theorem AW.mono {R : β → α → Prop} {t : Sem α} {Q Q' : β → Loc → Sto → Prop} (h : AW R C E t Q ρ σ) (hq : ∀ b ρ' σ', Q b ρ' σ' → Q' b ρ' σ') : AW R C E t Q' ρ σ :=
  fun s hs => wpAny_mono (h s hs) (fun _ _ ⟨b, ρ', σ', r, x, q⟩ => ⟨b, ρ', σ', r, x, hq _ _ _ q⟩) fun _ _ e => e
theorem AW.bind {R : β → α → Prop} {R' : δ → γ → Prop} {t : Sem α} {f : α → Sem γ} {Q : δ → Loc → Sto → Prop}
    (h : AW R C E t (fun b ρ' σ' => ∀ a, R b a → AW R' C E (f a) Q ρ' σ') ρ σ) : AW R' C E (t >>= f) Q ρ σ :=
  fun s hs => wpAny_bind (wpAny_mono (h s hs) (fun a s' ⟨_, _, _, r, x, q⟩ => q a r s' x) fun _ _ e => e)
theorem AW.pure {R : β → α → Prop} {a : α} {b : β} {Q : β → Loc → Sto → Prop} (r : R b a) (h : Q b ρ σ) : AW R C E (Pure.pure a) Q ρ σ :=
  fun _ hs => wpAny_pure ⟨b, ρ, σ, r, hs, h⟩
theorem AW.sub {R : β → α → Prop} {t : Sem α} {Q : β → Loc → Sto → Prop} {σ' : Sto} (h : AW R C E t Q ρ σ') (hs : ∀ p ∈ σ', p ∈ σ) (nd : ∀ s, Rel C ρ σ s → (σ'.map (·.1)).Nodup) : AW R C E t Q ρ σ :=
  fun s hr => h s (hr.sub hs (nd s hr))
theorem AW.sublist {R : β → α → Prop} {t : Sem α} {Q : β → Loc → Sto → Prop} {σ' : Sto} (h : AW R C E t Q ρ σ') (hs : List.Sublist σ' σ) : AW R C E t Q ρ σ :=
  h.sub (fun _ hp => hs.subset hp) (fun _ hr => (hs.map _).nodup hr.nd)
theorem AW.loc {R : β → α → Prop} {t : Sem α} {Q : β → Loc → Sto → Prop} {ρ' : Loc} (h : AW R C E t Q ρ' σ) (hs : ∀ x v, ρ'.lookup x = some v → ρ.lookup x = some v) : AW R C E t Q ρ σ :=
  fun s hr => h s (hr.loc hs)
end

/-- what holds of a frame: n is the room left for calls -/
structure Cx.Ok (C : Cx) (env : Env) (n : Nat) : Prop where
  B : Below C.A₀ C.base C.outer C.h₀
  X : C.K.In C.h₀
  T : TopRead C.p C.loose C.mg C.mb C.h₀
  hA : C.A.frames = some (env :: C.outer)
  hf : env.frame = some C.L
  hk : env.scope.kind = .function
  hh : C.A.handled = none
  depth : C.A.depth + n < recursionLimit
  units : C.A.units + 10 * n < cLine

/-- what the names of the top need -/
structure Cx.Gl (C : Cx) : Prop where
  X : C.K.In C.h₀
  T : TopRead C.p C.loose C.mg C.mb C.h₀
theorem Cx.Ok.gl {C : Cx} {env : Env} {n : Nat} (h : C.Ok env n) : C.Gl := ⟨h.X, h.T⟩

section names
variable {C : Cx} {E : Value → Shared → Prop} {ρ : Loc} {σ : Sto} {env : Env} {x : Str} {pos : Pos} {v : AV} {Q : AV → Loc → Sto → Prop}
theorem aw_local (hl : ρ.lookup x = some v) (h : Q v ρ σ) (hL : env.locals = C.L := by rfl) (hk : env.scope.kind = .function := by rfl) (hx : env.kindOf x = some .local := by rfl) (hd : (x == ("__debug__" : Str)) = false := by decide) :
    AW RV C E (eval (.Name x pos) env) Q ρ σ := fun s hs => by
  obtain ⟨m, F, l⟩ := hs.fr
  obtain ⟨v', e, r⟩ := l x v hl
  exact wpAny_Name (wpAny_loadName_local hk hx (hL ▸ F.ns) e ⟨v, ρ, σ, r, hs, h⟩) hd
theorem aw_ns {c : Addr} {ρ₂ : Loc} (hm : (c, AO.ns ρ₂) ∈ σ) (hl : ρ₂.lookup x = some v) (h : Q v ρ σ) (hL : env.locals = c := by rfl) (hk : env.scope.kind = .function := by rfl) (hx : env.kindOf x = some .local := by rfl) (hd : (x == ("__debug__" : Str)) = false := by decide) :
    AW RV C E (eval (.Name x pos) env) Q ρ σ := fun s hs => by
  obtain ⟨o, e, _, _, m, hn, l⟩ := hs.led _ hm
  obtain ⟨v', e', r⟩ := l x v hl
  subst hL
  exact wpAny_Name (wpAny_loadName_local hk hx (hn.ns e) e' ⟨v, ρ, σ, r, hs, h⟩) hd
theorem aw_cell {c : Addr} (hc : env.cells.lookup x = some c) (hm : (c, AO.cell (some v)) ∈ σ) (h : Q v ρ σ) (hk : env.scope.kind = .function := by rfl) (hx : env.kindOf x = some .cell := by rfl) (hb : (x == ("__debug__" : Str)) = false := by decide) :
    AW RV C E (eval (.Name x pos) env) Q ρ σ := fun s hs => by
  obtain ⟨o, e, _, _, v', r, hd⟩ := hs.led _ hm
  exact wpAny_Name (wpAny_loadName_cell hk hx hc ⟨o, e, hd⟩ ⟨v, ρ, σ, r, hs, h⟩) hb
theorem aw_free {c : Addr} (hc : env.cells.lookup x = some c) (hm : (c, AO.cell (some v)) ∈ σ) (h : Q v ρ σ) (hk : env.scope.kind = .function := by rfl) (hx : env.kindOf x = some .free := by rfl) (hb : (x == ("__debug__" : Str)) = false := by decide) (hn : (x == ("__classdict__" : Str)) = false := by decide) :
    AW RV C E (eval (.Name x pos) env) Q ρ σ := fun s hs => by
  obtain ⟨o, e, _, _, v', r, hd⟩ := hs.led _ hm
  exact wpAny_Name (wpAny_loadName_free hk hx hc ⟨o, e, hd⟩ ⟨v, ρ, σ, r, hs, h⟩ hn) hb
theorem aw_glob {v' : Value} (G : C.Gl) (e : nsIn C.K mainGlobals x = some (some v')) (r : RV v v') (h : Q v ρ σ) (hg : env.globals = mainGlobals := by rfl) (hk : env.scope.kind = .function := by rfl) (hx : env.kindOf x = some .globalImplicit := by rfl) (hd : (x == ("__debug__" : Str)) = false := by decide) :
    AW RV C E (eval (.Name x pos) env) Q ρ σ := fun s hs => by
  obtain ⟨m, F, _⟩ := hs.fr
  exact Name_function_global hk hx (loadGlobal_global (hg ▸ G.T.g.keeps F.keep) (mg_of G.X G.T.g e) ⟨v, ρ, σ, r, hs, h⟩) hd
theorem aw_builtin {v' : Value} (G : C.Gl) (e : nsIn C.K mainGlobals x = some none) (hv : bootBuiltins x = some v') (r : RV v v') (h : Q v ρ σ) (hn : x ≠ "__name__" := by decide) (hg : env.globals = mainGlobals := by rfl) (hbn : env.builtins = builtinsNs := by rfl) (hk : env.scope.kind = .function := by rfl) (hx : env.kindOf x = some .globalImplicit := by rfl) (hd : (x == ("__debug__" : Str)) = false := by decide) :
    AW RV C E (eval (.Name x pos) env) Q ρ σ := fun s hs => by
  obtain ⟨m, F, _⟩ := hs.fr
  exact Name_function_global hk hx (loadGlobal_builtin (hg ▸ G.T.g.keeps F.keep) (mg_none_of G.X G.T.g e) (hbn ▸ G.T.b.keeps F.keep) ((G.T.builtins x hn).trans hv) ⟨v, ρ, σ, r, hs, h⟩) hd
end names
end Mine
namespace Mine
open PySem PySem.W PySem.Spec PySem.Calls PyProof.Rows

/-- two values related, then a tree over them -/
def A2 (C : Cx) (E : Value → Shared → Prop) (t : Value → Value → Sem Value) (a b : AV) (Q : AV → Loc → Sto → Prop) (ρ : Loc) (σ : Sto) : Prop :=
  ∀ va vb, RV a va → RV b vb → AW RV C E (t va vb) Q ρ σ
def A1 (C : Cx) (E : Value → Shared → Prop) (t : Value → Sem Value) (a : AV) (Q : AV → Loc → Sto → Prop) (ρ : Loc) (σ : Sto) : Prop :=
  ∀ va, RV a va → AW RV C E (t va) Q ρ σ
def ATr (C : Cx) (E : Value → Shared → Prop) (a : AV) (Q : Bool → Loc → Sto → Prop) (ρ : Loc) (σ : Sto) : Prop :=
  ∀ va, RV a va → AW (Eq (α := Bool)) C E (truthy va) Q ρ σ
def ACall (C : Cx) (E : Value → Shared → Prop) (f : Value) (as : List AV) (Q : AV → Loc → Sto → Prop) (ρ : Loc) (σ : Sto) : Prop :=
  ∀ vs, RVs as vs → AW RV C E (call f vs []) Q ρ σ
abbrev Op2 (C : Cx) (E : Value → Shared → Prop) (op : Operator) := A2 C E (binaryOp op)
abbrev Cmp2 (C : Cx) (E : Value → Shared → Prop) (op : CmpOp) := A2 C E (compareOp op)

section
variable {C : Cx} {E : Value → Shared → Prop} {ρ : Loc} {σ : Sto} {env : Env} {pos : Pos} {Q : AV → Loc → Sto → Prop} {QB : Bool → Loc → Sto → Prop} {QF : AF → Loc → Sto → Prop}

theorem AW.lift1 {α β : Type} {R : β → α → Prop} {t : Sem α} {Q1 : β → Loc → Sto → Prop} {P : α → Shared → Prop} {s : Shared} (h : AW R C E t Q1 ρ σ) (hs : Rel C ρ σ s)
    (k : ∀ a b ρ' σ' s', R b a → Rel C ρ' σ' s' → Q1 b ρ' σ' → P a s') : wpAny (model C.prog C.w) C.A t P E s :=
  wpAny_mono (h s hs) (fun a s' ⟨b, ρ', σ', r, x, q⟩ => k a b ρ' σ' s' r x q) fun _ _ e => e

-- constants
theorem aw_int {i : Int} {k : Nat} (h : Q (.int i) ρ σ) : AW RV C E (eval (.Constant (.int i) k pos) env) Q ρ σ :=
  fun _ hs => wpAny_Constant_int ⟨.int i, _, _, ⟨_, rfl⟩, hs.toks _, h⟩
theorem aw_str {x : Str} {k : Nat} (h : Q (.str x) ρ σ) : AW RV C E (eval (.Constant (.str x) k pos) env) Q ρ σ :=
  fun _ hs => Constant_str ⟨.str x, _, _, ⟨_, rfl⟩, hs.toks _, h⟩
theorem aw_bool {x : Bool} {k : Nat} (h : Q (.bool x) ρ σ) : AW RV C E (eval (.Constant (.bool x) k pos) env) Q ρ σ :=
  fun _ hs => wpAny_Constant_bool ⟨.bool x, _, _, rfl, hs, h⟩
theorem aw_none {k : Nat} (h : Q .none ρ σ) : AW RV C E (eval (.Constant .none k pos) env) Q ρ σ :=
  fun _ hs => wpAny_Constant_none ⟨.none, _, _, rfl, hs, h⟩

-- operators
theorem aw_BinOp {l r : Expr} {op : Operator} (h : AW RV C E (eval l env) (fun a ρ₁ σ₁ => AW RV C E (eval r env) (fun b ρ₂ σ₂ => Op2 C E op a b Q ρ₂ σ₂) ρ₁ σ₁) ρ σ) :
    AW RV C E (eval (.BinOp l op r pos) env) Q ρ σ :=
  fun _ hs => wpAny_BinOp (h.lift1 hs fun va _ _ _ _ ra hs₁ h₁ => h₁.lift1 hs₁ fun vb _ _ _ _ rb hs₂ h₂ => h₂ va vb ra rb _ hs₂)
theorem aw_UnaryOp {x : Expr} {op : UnaryOp} (h : AW RV C E (eval x env) (fun a ρ₁ σ₁ => A1 C E (unaryOp op) a Q ρ₁ σ₁) ρ σ) : AW RV C E (eval (.UnaryOp op x pos) env) Q ρ σ :=
  fun _ hs => UnaryOp_ (h.lift1 hs fun va _ _ _ _ ra hs₁ h₁ => h₁ va ra _ hs₁)
theorem aw_Compare {l r : Expr} {op : CmpOp} (h : AW RV C E (eval l env) (fun a ρ₁ σ₁ => AW RV C E (eval r env) (fun b ρ₂ σ₂ => Cmp2 C E op a b Q ρ₂ σ₂) ρ₁ σ₁) ρ σ) (hm : behindInMarks op r = false := by rfl) :
    AW RV C E (eval (.Compare l [op] [r] pos) env) Q ρ σ :=
  fun _ hs => wpAny_Compare1 (h.lift1 hs fun va _ _ _ _ ra hs₁ h₁ => h₁.lift1 hs₁ fun vb _ _ _ _ rb hs₂ h₂ => h₂ va vb ra rb _ hs₂) hm
theorem aw_IfExp {t b o : Expr} (h : AW (Eq (α := Bool)) C E (isTrue t env (eval t env)) (fun c ρ₁ σ₁ => if c = true then AW RV C E (eval b env) Q ρ₁ σ₁ else AW RV C E (eval o env) Q ρ₁ σ₁) ρ σ) :
    AW RV C E (eval (.IfExp t b o pos) env) Q ρ σ :=
  fun _ hs => IfExp_ (h.lift1 hs fun c c' _ _ _ ra hs₁ h₁ => by
    subst ra
    split at h₁
    · rename_i hc; rw [if_pos hc]; exact h₁ _ hs₁
    · rename_i hc; rw [if_neg hc]; exact h₁ _ hs₁)
theorem aw_and {e₁ e₂ : Expr} {rest : List Expr} (h : AW RV C E (eval e₁ env) (fun v ρ₁ σ₁ => ATr C E v (fun c ρ₂ σ₂ => if c = true then AW RV C E (eval (.BoolOp .And (e₂ :: rest) pos) env) Q ρ₂ σ₂ else Q v ρ₂ σ₂) ρ₁ σ₁) ρ σ) :
    AW RV C E (eval (.BoolOp .And (e₁ :: e₂ :: rest) pos) env) Q ρ σ :=
  fun _ hs => BoolOp_and (h.lift1 hs fun va a _ _ _ ra hs₁ h₁ => (h₁ va ra).lift1 hs₁ fun c c' _ _ _ rc hs₂ h₂ => by
    subst rc
    split at h₂
    · rename_i hc; rw [if_pos hc]; exact h₂ _ hs₂
    · rename_i hc; rw [if_neg hc]; exact ⟨a, _, _, ra, hs₂, h₂⟩)
theorem aw_or {e₁ e₂ : Expr} {rest : List Expr} (h : AW RV C E (eval e₁ env) (fun v ρ₁ σ₁ => ATr C E v (fun c ρ₂ σ₂ => if c = true then Q v ρ₂ σ₂ else AW RV C E (eval (.BoolOp .Or (e₂ :: rest) pos) env) Q ρ₂ σ₂) ρ₁ σ₁) ρ σ) :
    AW RV C E (eval (.BoolOp .Or (e₁ :: e₂ :: rest) pos) env) Q ρ σ :=
  fun _ hs => BoolOp_or (h.lift1 hs fun va a _ _ _ ra hs₁ h₁ => (h₁ va ra).lift1 hs₁ fun c c' _ _ _ rc hs₂ h₂ => by
    subst rc
    split at h₂
    · rename_i hc; rw [if_pos hc]; exact ⟨a, _, _, ra, hs₂, h₂⟩
    · rename_i hc; rw [if_neg hc]; exact h₂ _ hs₂)
theorem aw_bool1 {e : Expr} {op : BoolOp} (h : AW RV C E (eval e env) Q ρ σ) : AW RV C E (eval (.BoolOp op [e] pos) env) Q ρ σ := fun s hs => BoolOp_one (h s hs)

-- truth
theorem it_plain {e : Expr} {whole : Sem Value} (h : AW RV C E whole (fun v ρ₁ σ₁ => ATr C E v QB ρ₁ σ₁) ρ σ)
    (hp : isTrue e env whole = (do let v ← whole; standAt e.pos; holding [v] (truthy v)) := by rfl) : AW (Eq (α := Bool)) C E (isTrue e env whole) QB ρ σ :=
  fun _ hs => isTrue_plain (h.lift1 hs fun va _ _ _ _ ra hs₁ h₁ => (h₁ va ra) _ hs₁) hp
theorem it_not {x : Expr} {whole : Sem Value} (h : AW (Eq (α := Bool)) C E (isTrue x env (eval x env)) (fun c ρ₁ σ₁ => QB (!c) ρ₁ σ₁) ρ σ) : AW (Eq (α := Bool)) C E (isTrue (.UnaryOp .Not x pos) env whole) QB ρ σ :=
  fun _ hs => isTrue_not (h.lift1 hs fun c c' _ _ _ ra hs₁ h₁ => ⟨!c', _, _, by rw [ra], hs₁, h₁⟩)
theorem it_cmp {l r : Expr} {op : CmpOp} {whole : Sem Value} (h : AW RV C E (eval l env) (fun a ρ₁ σ₁ => AW RV C E (eval r env) (fun b ρ₂ σ₂ => Cmp2 C E op a b (fun v ρ₃ σ₃ => ATr C E v QB ρ₃ σ₃) ρ₂ σ₂) ρ₁ σ₁) ρ σ) (hm : behindInMarks op r = false := by rfl) :
    AW (Eq (α := Bool)) C E (isTrue (.Compare l [op] [r] pos) env whole) QB ρ σ :=
  fun _ hs => wpAny_isTrue_Compare1 (h.lift1 hs fun va _ _ _ _ ra hs₁ h₁ => h₁.lift1 hs₁ fun vb _ _ _ _ rb hs₂ h₂ => (h₂ va vb ra rb).lift1 hs₂ fun vc _ _ _ _ rc hs₃ h₃ => h₃ vc rc _ hs₃) hm
theorem it_bool {op : BoolOp} {es : List Expr} {whole : Sem Value} (h : AW (Eq (α := Bool)) C E (allTrue op es env) QB ρ σ) : AW (Eq (α := Bool)) C E (isTrue (.BoolOp op es pos) env whole) QB ρ σ := h
theorem at_nil {op : BoolOp} (h : QB (op == .And) ρ σ) : AW (Eq (α := Bool)) C E (allTrue op [] env) QB ρ σ := AW.pure rfl h
theorem at_and {x : Expr} {rest : List Expr} (h : AW (Eq (α := Bool)) C E (isTrue x env (eval x env)) (fun c ρ₁ σ₁ => if c = true then AW (Eq (α := Bool)) C E (allTrue .And rest env) QB ρ₁ σ₁ else QB false ρ₁ σ₁) ρ σ) :
    AW (Eq (α := Bool)) C E (allTrue .And (x :: rest) env) QB ρ σ := by
  refine AW.bind (h.mono fun c ρ₁ σ₁ h₁ a e => ?_)
  subst e
  cases c with
  | true => exact h₁
  | false => exact AW.pure rfl h₁
theorem at_or {x : Expr} {rest : List Expr} (h : AW (Eq (α := Bool)) C E (isTrue x env (eval x env)) (fun c ρ₁ σ₁ => if c = true then QB true ρ₁ σ₁ else AW (Eq (α := Bool)) C E (allTrue .Or rest env) QB ρ₁ σ₁) ρ σ) :
    AW (Eq (α := Bool)) C E (allTrue .Or (x :: rest) env) QB ρ σ := by
  refine AW.bind (h.mono fun c ρ₁ σ₁ h₁ a e => ?_)
  subst e
  cases c with
  | true => exact AW.pure rfl h₁
  | false => exact h₁
theorem tr_bool {b : Bool} (h : QB b ρ σ) : ATr C E (.bool b) QB ρ σ := by
  rintro _ rfl
  intro s hs
  exact wpAny_truthy_bool ⟨b, ρ, σ, rfl, hs, h⟩

-- statements
theorem ex_nil (h : QF .next ρ σ) : AW RF C E (execs [] env) QF ρ σ := fun _ hs => wpAny_execs_nil ⟨.next, _, _, rfl, hs, h⟩
theorem ex_cons {st : Stmt} {rest : List Stmt} (h : AW RF C E (exec st env) (fun f ρ₁ σ₁ => match f with | .next => AW RF C E (execs rest env) QF ρ₁ σ₁ | f => QF f ρ₁ σ₁) ρ σ) : AW RF C E (execs (st :: rest) env) QF ρ σ :=
  fun _ hs => wpAny_execs_cons (h.lift1 hs fun f f' _ _ _ rf hs₁ h₁ => by
    cases f' with
    | next => cases rf; exact h₁ _ hs₁
    | brk => cases rf; exact ⟨.brk, _, _, rfl, hs₁, h₁⟩
    | cont => cases rf; exact ⟨.cont, _, _, rfl, hs₁, h₁⟩
    | ret a => obtain ⟨v, rfl, rv⟩ := rf; exact ⟨.ret a, _, _, ⟨v, rfl, rv⟩, hs₁, h₁⟩)
theorem ex_return {e : Expr} (h : AW RV C E (eval e env) (fun v => QF (.ret v)) ρ σ) : AW RF C E (exec (.Return (some e) pos) env) QF ρ σ :=
  fun _ hs => wpAny_Return_some (h.lift1 hs fun v a _ _ _ rv hs₁ h₁ => ⟨.ret a, _, _, ⟨v, rfl, rv⟩, hs₁, h₁⟩)
theorem ex_if {t : Expr} {b o : List Stmt} (h : AW (Eq (α := Bool)) C E (isTrue t env (eval t env)) (fun c ρ₁ σ₁ => if c = true then AW RF C E (execs b env) QF ρ₁ σ₁ else AW RF C E (execs o env) QF ρ₁ σ₁) ρ σ) :
    AW RF C E (exec (.If t b o pos) env) QF ρ σ :=
  fun _ hs => wpAny_If (h.lift1 hs fun c c' _ _ _ ra hs₁ h₁ => by
    subst ra
    split at h₁
    · rename_i hc; rw [if_pos hc]; exact h₁ _ hs₁
    · rename_i hc; rw [if_neg hc]; exact h₁ _ hs₁)

/-- storing a name -/
def ASt (C : Cx) (E : Value → Shared → Prop) (env : Env) (x : Str) (a : AV) (Q : Loc → Sto → Prop) (ρ : Loc) (σ : Sto) : Prop :=
  ∀ v, RV a v → AW (Eq (α := Unit)) C E (storeName env x v) (fun _ => Q) ρ σ
def rset (ρ : Loc) (x : Str) (a : AV) : Loc := match ρ with
  | [] => [(x, a)]
  | (y, b) :: r => if x = y then (x, a) :: r else (y, b) :: rset r x a
theorem rset_lookup (ρ : Loc) (x : Str) (a : AV) (y : Str) : (rset ρ x a).lookup y = if y = x then some a else ρ.lookup y := by
  induction ρ with
  | nil =>
    by_cases h : y = x
    · simp [rset, List.lookup_cons, h]
    · simp [rset, List.lookup_cons, h, beq_eq_false_iff_ne.mpr h]
  | cons p r ih =>
    obtain ⟨z, b⟩ := p
    unfold rset
    by_cases hxz : x = z
    · subst hxz
      rw [if_pos rfl]
      by_cases h : y = x
      · simp [h]
      · simp [List.lookup_cons, h, beq_eq_false_iff_ne.mpr h]
    · rw [if_neg hxz]
      by_cases h : y = z
      · subst h
        have : y ≠ x := Ne.symm hxz
        simp [List.lookup_cons, this]
      · simp only [List.lookup_cons, beq_eq_false_iff_ne.mpr h]
        exact ih
theorem st_local {x : Str} {a : AV} {Q : Loc → Sto → Prop} (h : Q (rset ρ x a) σ) (hL : env.locals = C.L := by rfl) (hk : env.scope.kind = .function := by rfl) (hx : env.kindOf x = some .local := by rfl) : ASt C E env x a Q ρ σ := by
  intro v rv s hs
  obtain ⟨m, F, l⟩ := hs.fr
  refine wpAny_storeName_local hx (hL ▸ F.ns) (fun h' hn hsb => ⟨(), rset ρ x a, σ, rfl, ?_, h⟩) (by rw [hk]; rfl)
  rw [hL] at hn hsb
  obtain ⟨⟨h'', tk, e⟩, _, led, nd⟩ := hs
  subst e
  refine ⟨⟨h', _, rfl⟩, ⟨_, F.set hn hsb, fun y w e => ?_⟩, fun p hp => ?_, nd⟩
  · rw [rset_lookup] at e
    by_cases hy : y = x
    · subst hy; simp only [if_true] at e ⊢; cases e; exact ⟨v, rfl, rv⟩
    · rw [if_neg hy] at e ⊢; exact l y w e
  · obtain ⟨o, e1, e2, r⟩ := led p hp
    exact ⟨o, (hsb.2 _ e2).trans e1, e2, r⟩
theorem st_ns {x : Str} {a : AV} {c : Addr} {ρ₂ : Loc} {pre post : Sto} {Q : Loc → Sto → Prop} (hσ : σ = pre ++ (c, .ns ρ₂) :: post) (h : Q ρ (pre ++ (c, .ns (rset ρ₂ x a)) :: post)) (hL : env.locals = c := by rfl) (hk : env.scope.kind = .function := by rfl) (hx : env.kindOf x = some .local := by rfl) : ASt C E env x a Q ρ σ := by
  intro v rv s hs
  subst hσ
  obtain ⟨o, e, n1, n2, m, hn, l⟩ := hs.led (c, .ns ρ₂) (List.mem_append_right _ (.head _))
  subst hL
  refine wpAny_storeName_local hx (hn.ns e) (fun h' hn' hsb => ?_) (by rw [hk]; rfl)
  obtain ⟨o', e', hn''⟩ := LCg.ns_obj hn'
  refine ⟨(), ρ, _, rfl, hs.upd hsb e' (ao' := .ns (rset ρ₂ x a)) ⟨_, hn'', fun y w e => ?_⟩ _, h⟩
  rw [rset_lookup] at e
  by_cases hy : y = x
  · subst hy; simp only [if_true] at e ⊢; cases e; exact ⟨v, rfl, rv⟩
  · rw [if_neg hy] at e ⊢; exact l y w e
theorem st_cell {x : Str} {a : AV} {c : Addr} {v₀ : Option AV} {pre post : Sto} {Q : Loc → Sto → Prop} (hσ : σ = pre ++ (c, .cell v₀) :: post) (hc : env.cells.lookup x = some c) (h : Q ρ (pre ++ (c, .cell (some a)) :: post)) (hk : env.scope.kind = .function := by rfl) (hx : env.kindOf x = some .cell := by rfl) : ASt C E env x a Q ρ σ := by
  intro v rv s hs
  subst hσ
  obtain ⟨o, e, n1, n2, r⟩ := hs.led (c, .cell v₀) (List.mem_append_right _ (.head _))
  have hcell : ∃ w, s.heap.IsCell c w := by
    cases v₀ with
    | none => obtain ⟨w, hw⟩ := r; exact ⟨w, o, e, hw⟩
    | some a₀ => obtain ⟨w, _, hw⟩ := r; exact ⟨some w, o, e, hw⟩
  obtain ⟨w, hw⟩ := hcell
  refine wpAny_storeName_cell hk hx hc hw fun h' hv hsb => ?_
  obtain ⟨o', e', hd⟩ := hv
  exact ⟨(), ρ, _, rfl, hs.upd hsb e' (ao' := .cell (some a)) ⟨v, rv, hd⟩ s.toks, h⟩
theorem ex_assign {x : Str} {p' : Pos} {e : Expr} (h : AW RV C E (eval e env) (fun a ρ₁ σ₁ => ASt C E env x a (QF .next) ρ₁ σ₁) ρ σ) (hsw : swapsWith e (some (.Name x p')) pos.line env = pure false := by rfl) :
    AW RF C E (exec (.Assign [.Name x p'] e pos) env) QF ρ σ :=
  fun _ hs => wpAny_Assign_Name (h.lift1 hs fun v _ _ _ _ rv hs₁ h₁ => (h₁ v rv).lift1 hs₁ fun _ _ _ _ _ _ hs₂ h₂ => ⟨.next, _, _, rfl, hs₂, h₂⟩) hsw

-- calls
def Kp (C : Cx) (f : Value) (σ : Sto) : Prop := ∀ ρ s, Rel C ρ σ s → ∃ k, (k = Keeper.frame ∨ k = Keeper.machine ∨ k = Keeper.boundFrame) ∧ Looks (model C.prog C.w) s.heap (keeperOf f) k
theorem kp_builtin {id : String} : Kp C (.builtin id) σ := fun _ _ _ => ⟨.machine, .inr (.inl rfl), .now⟩
theorem kp_type {T : String} : Kp C (.type T) σ := fun _ _ _ => ⟨.machine, .inr (.inl rfl), .now⟩
theorem kp_K (G : C.Gl) {f : Value} (hk : keepIn C.K f = true) : Kp C f σ := fun _ _ hs => by
  obtain ⟨m, F, _⟩ := hs.fr
  exact keeps_K hk _ (G.X.keeps F.keep)
theorem sp_nil {p : Pos} {QL : List AV → Loc → Sto → Prop} (h : QL [] ρ σ) : AW RVs C E (spliced (backTo p (starEach [] env))) QL ρ σ := fun _ hs => spliced_none ⟨_, _, _, .nil, hs, h⟩
theorem sp_cons {p : Pos} {e : Expr} {rest : List Expr} {QL : List AV → Loc → Sto → Prop} (h : AW RV C E (eval e env) (fun a ρ₁ σ₁ => AW RVs C E (spliced (backTo p (starEach rest env))) (fun as ρ₂ σ₂ => QL (a :: as) ρ₂ σ₂) ρ₁ σ₁) ρ σ)
    (he : starEach (e :: rest) env = (false, eval e env) :: starEach rest env := by rfl) : AW RVs C E (spliced (backTo p (starEach (e :: rest) env))) QL ρ σ :=
  fun _ hs => spliced_more (h.lift1 hs fun v _ _ _ _ rv hs₁ h₁ => h₁.lift1 hs₁ fun vs _ _ _ _ rvs hs₂ h₂ => ⟨_, _, _, .cons rv rvs, hs₂, h₂⟩) he
theorem cw_more {p : Pos} {f : Value} {first : List Value} {fa : List AV} {e : Expr} {rest : List Expr} (rf : RVs fa first) (h : AW RVs C E (spliced (backTo p (starEach (e :: rest) env))) (fun as ρ₁ σ₁ => Kp C f σ₁ ∧ ACall C E f (fa ++ as) Q ρ₁ σ₁) ρ σ)
    (he : starEach (e :: rest) env = (false, eval e env) :: starEach rest env := by rfl) (hplain : (backTo p (starEach rest env)).any (·.1) = false := by rfl) :
    AW RV C E (callWith p f first (backTo p (starEach (e :: rest) env)) []) Q ρ σ := by
  intro s hs
  have h' := h
  rw [he] at h' ⊢
  refine callWith_of (P := fun hp => ∃ k, (k = Keeper.frame ∨ k = Keeper.machine ∨ k = Keeper.boundFrame) ∧ Looks (model C.prog C.w) hp (keeperOf f) k) (by show ((false || (backTo p (starEach rest env)).any (·.1)) || false) = false; rw [hplain]; rfl) (fun _ x => x) (evalArgs_plain ?_)
  exact h'.lift1 hs fun vs _ _ _ _ rvs hs₁ h₁ => ⟨h₁.1 _ _ hs₁, h₁.2 _ (rf.append rvs) _ hs₁⟩
theorem cw_none {p : Pos} {f : Value} {first : List Value} {fa : List AV} (rf : RVs fa first) (hk : Kp C f σ) (h : ACall C E f fa Q ρ σ) :
    AW RV C E (callWith p f first (backTo p (starEach [] env)) []) Q ρ σ := by
  intro s hs
  refine callWith_of (P := fun hp => ∃ k, (k = Keeper.frame ∨ k = Keeper.machine ∨ k = Keeper.boundFrame) ∧ Looks (model C.prog C.w) hp (keeperOf f) k) rfl (fun _ x => x) (evalArgs_nil3 ⟨hk _ _ hs, ?_⟩)
  rw [List.append_nil]
  exact h _ rf _ hs
theorem aw_Call {func : Expr} {args : List Expr} (h : AW RV C E (eval func env) (fun f ρ₁ σ₁ => ∀ fv, RV f fv → AW RV C E (callWith pos fv [] (backTo pos (starEach args env)) []) Q ρ₁ σ₁) ρ σ)
    (he : eval (.Call func args [] pos) env = (do callWith pos (← eval func env) [] (backTo pos (starEach args env)) (backToKw pos (keywordEach [] env))) := by rfl) :
    AW RV C E (eval (.Call func args [] pos) env) Q ρ σ :=
  fun _ hs => Call_ (h.lift1 hs fun v _ _ _ _ rv hs₁ h₁ => h₁ v rv _ hs₁) he
/-- a method's function and its first arguments -/
def AMeth (C : Cx) (E : Value → Shared → Prop) (a : AV) (name : Str) (pl : Sem Bool) (P : Value → List AV → Loc → Sto → Prop) (ρ : Loc) (σ : Sto) : Prop :=
  ∀ v, RV a v → ∀ s, Rel C ρ σ s → wpAny (model C.prog C.w) C.A (getMethod v name pl) (fun fx s' => ∃ fa ρ' σ', RVs fa fx.2 ∧ Rel C ρ' σ' s' ∧ P fx.1 fa ρ' σ') E s
theorem aw_Method {o : Expr} {name : Str} {apos : Pos} {args : List Expr} {pl : Sem Bool} (h : AW RV C E (eval o env) (fun a ρ₁ σ₁ => AMeth C E a name pl (fun f fa ρ₂ σ₂ => ∀ first, RVs fa first → AW RV C E (callWith pos f first (backTo pos (starEach args env)) []) Q ρ₂ σ₂) ρ₁ σ₁) ρ σ)
    (he : eval (.Call (.Attribute o name apos) args [] pos) env = (do
          let ov ← eval o env
          standAt (Pos.atName apos)
          let (f, first) ← holding [ov] (getMethod ov name pl)
          callWith pos f first (backTo pos (starEach args env)) []) := by rfl) :
    AW RV C E (eval (.Call (.Attribute o name apos) args [] pos) env) Q ρ σ :=
  fun _ hs => MethodCall_ (pl := pl) (h.lift1 hs fun v _ _ _ _ rv hs₁ h₁ => wpAny_mono (h₁ v rv _ hs₁) (fun fx s' ⟨fa, ρ', σ', rf, hs₂, h₂⟩ => h₂ _ rf _ hs₂) fun _ _ e => e) he
-- items
theorem aw_Subscript {value slice : Expr} (h : AW RV C E (eval value env) (fun o ρ₁ σ₁ => AW RV C E (eval slice env) (fun i ρ₂ σ₂ => A2 C E (subscriptTail value slice) o i Q ρ₂ σ₂) ρ₁ σ₁) ρ σ) :
    AW RV C E (eval (.Subscript value slice pos) env) Q ρ σ :=
  fun _ hs => Subscript_ (h.lift1 hs fun va _ _ _ _ ra hs₁ h₁ => h₁.lift1 hs₁ fun vb _ _ _ _ rb hs₂ h₂ => h₂ va vb ra rb _ hs₂)
theorem ep_none (h : Q .none ρ σ) : AW RV C E (evalPart none env) Q ρ σ := AW.pure (R := RV) (a := Value.none) (b := .none) rfl h
theorem ep_some {e : Expr} (h : AW RV C E (eval e env) Q ρ σ) : AW RV C E (evalPart (some e) env) Q ρ σ := h
theorem aw_Slice {l u st : Option Expr} (h : AW RV C E (evalPart l env) (fun a ρ₁ σ₁ => AW RV C E (evalPart u env) (fun b ρ₂ σ₂ => AW RV C E (evalPart st env) (fun c ρ₃ σ₃ => ∀ r va vb vc, RV a va → RV b vb → RV c vc → Q (.ref r) ρ₃ ((r, .raw { cls := .type "slice", data := .fields #[va, vb, vc] }) :: σ₃)) ρ₂ σ₂) ρ₁ σ₁) ρ σ) :
    AW RV C E (eval (.Slice l u st pos) env) Q ρ σ :=
  fun _ hs => wpAny_Slice (h.lift1 hs fun va _ _ _ _ ra hs₁ h₁ => h₁.lift1 hs₁ fun vb _ _ _ _ rb hs₂ h₂ => h₂.lift1 hs₂ fun vc _ _ _ _ rc hs₃ h₃ =>
    ⟨.ref _, _, _, rfl, hs₃.push (ao := .raw _) rfl rfl _, h₃ _ va vb vc ra rb rc⟩)
theorem aw_List {es : List Expr} (h : AW RVs C E (spliced (backTo pos (starEach es env))) (fun as ρ₁ σ₁ => as.length ≤ sizeLine ∧ ∀ r, Q (.ref r) ρ₁ ((r, .list as) :: σ₁)) ρ σ) : AW RV C E (eval (.List es pos) env) Q ρ σ :=
  fun _ hs => List_ (h.lift1 hs fun vs as _ _ _ rvs hs₁ h₁ => by
    refine wpAny_newObj_type ?_ (by show vs.toArray.size ≤ sizeLine; rw [List.size_toArray, rvs.length]; exact h₁.1)
    exact ⟨.ref _, _, _, rfl, hs₁.push (ao := .list as) ⟨vs, 0, rvs, rfl⟩ rfl _, h₁.2 _⟩)
theorem aw_Tuple {es : List Expr} {k : Nat} (h : AW RVs C E (spliced (backTo pos (starEach es env))) (fun as ρ₁ σ₁ => as.length ≤ sizeLine ∧ ∀ r, Q (.ref r) ρ₁ ((r, .tuple as) :: σ₁)) ρ σ) : AW RV C E (eval (.Tuple es k pos) env) Q ρ σ :=
  fun _ hs => Tuple_ (h.lift1 hs fun vs as _ _ _ rvs hs₁ h₁ => by
    refine wpAny_newObj_type ?_ (by show vs.toArray.size ≤ sizeLine; rw [List.size_toArray, rvs.length]; exact h₁.1)
    exact ⟨.ref _, _, _, rfl, hs₁.push (ao := .tuple as) ⟨vs, 0, rvs, rfl⟩ rfl _, h₁.2 _⟩)
end
end Mine
namespace Mine
open PySem PySem.W PySem.Spec PySem.Calls PyProof.Rows

theorem Rel.appL {C : Cx} {ρ : Loc} {pre post : Sto} {a : Addr} {ao : AO} {s : Shared} (h : Rel C ρ (pre ++ (a, ao) :: post) s) : Rel C ρ (pre ++ post) s := by
  refine h.sub (fun p hp => ?_) ?_
  · rcases List.mem_append.mp hp with hp | hp
    · exact List.mem_append_left _ hp
    · exact List.mem_append_right _ (.tail _ hp)
  · have := h.nd
    rw [List.map_append, List.map_cons] at this
    rw [List.map_append]
    exact this.sublist (List.Sublist.append (List.Sublist.refl _) (List.sublist_cons_self _ _))
/-- a heap that keeps all but one address -/
theorem Rel.extBut {C : Cx} {ρ : Loc} {pre post : Sto} {a : Addr} {ao : AO} {s : Shared} (h : Rel C ρ (pre ++ (a, ao) :: post) s) {h' : Heap} (he : Heap.ExtBut a s.heap h') (n : Nat) : Rel C ρ (pre ++ post) { s with heap := h', toks := n } := by
  have h1 := h.appL
  obtain ⟨o, e1, e2, e3, _⟩ := h.led (a, ao) (List.mem_append_right _ (.head _))
  have nm : ∀ p ∈ pre ++ post, p.1 ≠ a := by
    intro p hp e
    have nd := h.nd
    simp only [List.map_append, List.map_cons] at nd
    have nd' := List.nodup_append.mp nd
    rcases List.mem_append.mp hp with hp | hp
    · exact nd'.2.2 p.1 (List.mem_map.mpr ⟨p, hp, rfl⟩) a (.head _) e
    · exact (List.nodup_cons.mp nd'.2.1).1 (e ▸ List.mem_map.mpr ⟨p, hp, rfl⟩)
  obtain ⟨⟨h'', tk, e⟩, ⟨m, F, l⟩, led, nd⟩ := h1
  subst e
  refine ⟨⟨h', n, rfl⟩, ⟨m, ⟨F.ns.at' fun o e => he _ o (Ne.symm e2) e, fun b ob e => he b ob (fun q => ?_) (F.keep b ob e), F.above⟩, l⟩, fun p hp => ?_, nd⟩
  · rw [q, e3] at e; cases e
  · obtain ⟨o, x, r⟩ := led p hp
    exact ⟨o, he _ _ (nm p hp) x, r⟩

/-- the store less one entry -/
def Pick (e : Addr × AO) (σ σ' : Sto) : Prop := σ.Perm (e :: σ')
theorem Pick.head {e : Addr × AO} {σ : Sto} : Pick e (e :: σ) σ := .refl _
theorem Pick.tail {e x : Addr × AO} {σ σ' : Sto} (h : Pick e σ σ') : Pick e (x :: σ) (x :: σ') := (h.cons x).trans (.swap _ _ _)
theorem Pick.mem {e : Addr × AO} {σ σ' : Sto} (h : Pick e σ σ') : e ∈ σ := h.mem_iff.mpr (.head _)
/-- a part of the store -/
def SubS (σ₁ σ₂ : Sto) : Prop := ∃ l, σ₂.Perm (σ₁ ++ l)
theorem SubS.refl {σ : Sto} : SubS σ σ := ⟨[], by rw [List.append_nil]⟩
theorem SubS.nil {σ : Sto} : SubS [] σ := ⟨σ, .refl _⟩
theorem SubS.drop {σ₁ σ₂ : Sto} {e : Addr × AO} (h : SubS σ₁ σ₂) : SubS σ₁ (e :: σ₂) := by
  obtain ⟨l, h⟩ := h
  exact ⟨e :: l, (h.cons e).trans (List.perm_middle.symm)⟩
theorem SubS.pick {σ₁ σ₂ σ₂' : Sto} {e : Addr × AO} (hp : Pick e σ₂ σ₂') (h : SubS σ₁ σ₂') : SubS (e :: σ₁) σ₂ := by
  obtain ⟨l, h⟩ := h
  exact ⟨l, hp.trans (h.cons e)⟩
theorem SubS.trans {σ₁ σ₂ σ₃ : Sto} (h : SubS σ₁ σ₂) (h' : SubS σ₂ σ₃) : SubS σ₁ σ₃ := by
  obtain ⟨l, h⟩ := h
  obtain ⟨l', h'⟩ := h'
  exact ⟨l ++ l', h'.trans ((h.append_right l').trans (by rw [List.append_assoc]))⟩
theorem SubS.mem {σ₁ σ₂ : Sto} (h : SubS σ₁ σ₂) {p : Addr × AO} (hp : p ∈ σ₁) : p ∈ σ₂ := by
  obtain ⟨l, h⟩ := h
  exact h.mem_iff.mpr (List.mem_append_left _ hp)
theorem SubS.app {l σ₁ σ₂ : Sto} (h : SubS σ₁ σ₂) : SubS (l ++ σ₁) (l ++ σ₂) := by
  obtain ⟨l', h⟩ := h
  exact ⟨l', by rw [List.append_assoc]; exact h.append_left l⟩
theorem SubS.appR {l σ : Sto} : SubS σ (l ++ σ) := ⟨l, List.perm_append_comm⟩
theorem Rel.subS {C : Cx} {ρ : Loc} {σ₁ σ₂ : Sto} {s : Shared} (h : Rel C ρ σ₂ s) (hs : SubS σ₁ σ₂) : Rel C ρ σ₁ s := by
  refine h.sub (fun p hp => hs.mem hp) ?_
  obtain ⟨l, hl⟩ := hs
  have := ((hl.map (·.1)).nodup_iff).mp h.nd
  rw [List.map_append] at this
  exact (List.nodup_append.mp this).1
theorem Rel.perm {C : Cx} {ρ : Loc} {σ₁ σ₂ : Sto} {s : Shared} (h : Rel C ρ σ₂ s) (hs : σ₂.Perm σ₁) : Rel C ρ σ₁ s :=
  h.sub (fun p hp => hs.mem_iff.mpr hp) (((hs.map (·.1)).nodup_iff).mp h.nd)
theorem Rel.updP {C : Cx} {ρ : Loc} {σ : Sto} {s : Shared} {a : Addr} {ao ao' : AO} (h : Rel C ρ ((a, ao) :: σ) s) {h' : Heap} {o' : Obj} (hs : Heap.SameBut a s.heap h') (ho : h'.get? a = some o') (hr : RO ao' o') (n : Nat) :
    Rel C ρ ((a, ao') :: σ) { s with heap := h', toks := n } := Rel.upd (pre := []) h hs ho hr n
theorem Rel.extP {C : Cx} {ρ : Loc} {σ : Sto} {s : Shared} {a : Addr} {ao : AO} (h : Rel C ρ ((a, ao) :: σ) s) {h' : Heap} (he : Heap.ExtBut a s.heap h') (n : Nat) : Rel C ρ σ { s with heap := h', toks := n } := Rel.extBut (pre := []) h he n
theorem AW.subS {α β : Type} {C : Cx} {E : Value → Shared → Prop} {ρ : Loc} {σ : Sto} {R : β → α → Prop} {t : Sem α} {Q : β → Loc → Sto → Prop} {σ' : Sto} (h : AW R C E t Q ρ σ') (hs : SubS σ' σ) : AW R C E t Q ρ σ := fun s hr => h s (hr.subS hs)
section
variable {C : Cx} {E : Value → Shared → Prop} {ρ : Loc} {σ : Sto} {env : Env} {pos : Pos} {Q : AV → Loc → Sto → Prop} {QB : Bool → Loc → Sto → Prop} {QF : AF → Loc → Sto → Prop}

-- typed operators
theorem o_add_int {a b : Int} (h : Q (.int (a + b)) ρ σ) : Op2 C E .Add (.int a) (.int b) Q ρ σ := by
  rintro _ _ ⟨t, rfl⟩ ⟨u, rfl⟩ s hs
  exact add_int ⟨.int _, _, _, ⟨_, rfl⟩, hs.toks _, h⟩
theorem o_sub_int {a b : Int} (h : Q (.int (a - b)) ρ σ) : Op2 C E .Sub (.int a) (.int b) Q ρ σ := by
  rintro _ _ ⟨t, rfl⟩ ⟨u, rfl⟩ s hs
  exact sub_int ⟨.int _, _, _, ⟨_, rfl⟩, hs.toks _, h⟩
theorem o_mul_int {a b : Int} (hm : IntMulOk a b) (h : Q (.int (a * b)) ρ σ) : Op2 C E .Mult (.int a) (.int b) Q ρ σ := by
  rintro _ _ ⟨t, rfl⟩ ⟨u, rfl⟩ s hs
  exact mul_int ⟨.int _, _, _, ⟨_, rfl⟩, hs.toks _, h⟩ hm
theorem o_mod_int {a b : Int} (hb : b ≠ 0) (h : Q (.int (Int.fmod a b)) ρ σ) : Op2 C E .Mod (.int a) (.int b) Q ρ σ := by
  rintro _ _ ⟨t, rfl⟩ ⟨u, rfl⟩ s hs
  exact mod_int' hb ⟨.int _, _, _, ⟨_, rfl⟩, hs.toks _, h⟩
theorem o_div_int {a b : Int} (hb : b ≠ 0) (hp : Builtin.divisionGoesByPylong a b = false) (h : Q (.int (Int.fdiv a b)) ρ σ) : Op2 C E .FloorDiv (.int a) (.int b) Q ρ σ := by
  rintro _ _ ⟨t, rfl⟩ ⟨u, rfl⟩ s hs
  exact floordiv_int hb ⟨.int _, _, _, ⟨_, rfl⟩, hs.toks _, h⟩ (.inl hp)
theorem o_pow_int {a n : Int} (h0 : 0 ≤ n) (h1 : n ≤ 1000000) (h2 : a.natAbs < 2 ^ 64) (h : Q (.int (a ^ n.toNat)) ρ σ) : Op2 C E .Pow (.int a) (.int n) Q ρ σ := by
  rintro _ _ ⟨t, rfl⟩ ⟨u, rfl⟩ s hs
  exact pow_int_small h0 h1 h2 ⟨.int _, _, _, ⟨_, rfl⟩, hs.toks _, h⟩
theorem o_add_str {x y : Str} (hsz : x.length + y.length ≤ sizeLine) (h : Q (.str (x ++ y)) ρ σ) : Op2 C E .Add (.str x) (.str y) Q ρ σ := by
  rintro _ _ ⟨t, rfl⟩ ⟨u, rfl⟩ s hs
  exact add_str (fun t' tk => ⟨.str _, _, _, ⟨_, rfl⟩, hs.toks _, h⟩) hsz
theorem o_mul_str {x : Str} {n : Int} (hm : MulOk x n) (h : Q (.str (Txt.mul x n)) ρ σ) : Op2 C E .Mult (.str x) (.int n) Q ρ σ := by
  rintro _ _ ⟨t, rfl⟩ ⟨u, rfl⟩ s hs
  exact SB.mul hm (fun t' tk => ⟨.str _, _, _, ⟨_, rfl⟩, hs.toks _, h⟩)
theorem u_neg_int {a : Int} (h : Q (.int (-a)) ρ σ) : A1 C E (unaryOp .USub) (.int a) Q ρ σ := by
  rintro _ ⟨t, rfl⟩ s hs
  exact neg_int ⟨.int _, _, _, ⟨_, rfl⟩, hs.toks _, h⟩
theorem c_lt_int {a b : Int} (h : Q (.bool (decide (a < b))) ρ σ) : Cmp2 C E .Lt (.int a) (.int b) Q ρ σ := by
  rintro _ _ ⟨t, rfl⟩ ⟨u, rfl⟩ s hs
  exact lt_int ⟨.bool _, _, _, rfl, hs, h⟩
theorem c_gt_int {a b : Int} (h : Q (.bool (decide (b < a))) ρ σ) : Cmp2 C E .Gt (.int a) (.int b) Q ρ σ := by
  rintro _ _ ⟨t, rfl⟩ ⟨u, rfl⟩ s hs
  exact gt_int ⟨.bool _, _, _, rfl, hs, h⟩
theorem c_ge_int {a b : Int} (h : Q (.bool (decide (b ≤ a))) ρ σ) : Cmp2 C E .GtE (.int a) (.int b) Q ρ σ := by
  rintro _ _ ⟨t, rfl⟩ ⟨u, rfl⟩ s hs
  exact ge_int ⟨.bool _, _, _, rfl, hs, h⟩
theorem c_eq_int {a b : Int} (h : Q (.bool (a == b)) ρ σ) : Cmp2 C E .Eq (.int a) (.int b) Q ρ σ := by
  rintro _ _ ⟨t, rfl⟩ ⟨u, rfl⟩ s hs
  exact eq_int ⟨.bool _, _, _, rfl, hs, h⟩
theorem c_ne_int {a b : Int} (h : Q (.bool (a != b)) ρ σ) : Cmp2 C E .NotEq (.int a) (.int b) Q ρ σ := by
  rintro _ _ ⟨t, rfl⟩ ⟨u, rfl⟩ s hs
  exact ne_int ⟨.bool _, _, _, rfl, hs, h⟩
theorem c_eq_str {a b : Str} (h : Q (.bool (a == b)) ρ σ) : Cmp2 C E .Eq (.str a) (.str b) Q ρ σ := by
  rintro _ _ ⟨t, rfl⟩ ⟨u, rfl⟩ s hs
  exact eq_str ⟨.bool _, _, _, rfl, hs, h⟩
theorem c_ne_str {a b : Str} (h : Q (.bool (a != b)) ρ σ) : Cmp2 C E .NotEq (.str a) (.str b) Q ρ σ := by
  rintro _ _ ⟨t, rfl⟩ ⟨u, rfl⟩ s hs
  exact ne_str ⟨.bool _, _, _, rfl, hs, h⟩
theorem RVs.one' {as : List AV} {a : AV} {vs : List Value} (h : RVs [a] vs) : ∃ v, vs = [v] ∧ RV a v := by cases h with | cons h1 h2 => cases h2; exact ⟨_, rfl, h1⟩
theorem RVs.two' {a b : AV} {vs : List Value} (h : RVs [a, b] vs) : ∃ v w, vs = [v, w] ∧ RV a v ∧ RV b w := by
  cases h with | cons h1 h2 => cases h2 with | cons h3 h4 => cases h4; exact ⟨_, _, rfl, h1, h3⟩
theorem RVs.three' {a b c : AV} {vs : List Value} (h : RVs [a, b, c] vs) : ∃ v w x, vs = [v, w, x] ∧ RV a v ∧ RV b w ∧ RV c x := by
  cases h with | cons h1 h2 => cases h2 with | cons h3 h4 => cases h4 with | cons h5 h6 => cases h6; exact ⟨_, _, _, rfl, h1, h3, h5⟩
theorem b_abs {a : Int} (h : Q (.int (if a < 0 then -a else a)) ρ σ) : ACall C E (.builtin "abs") [.int a] Q ρ σ := by
  intro vs hv s hs
  obtain ⟨_, rfl, t, rfl⟩ := RVs.one' (as := []) hv
  exact call_abs_int fun u tk => ⟨.int _, _, _, ⟨_, rfl⟩, hs.toks _, h⟩
theorem b_len_str {x : Str} (hx : x.length ≤ sizeLine) (h : Q (.int x.length) ρ σ) : ACall C E (.builtin "len") [.str x] Q ρ σ := by
  intro vs hv s hs
  obtain ⟨_, rfl, t, rfl⟩ := RVs.one' (as := []) hv
  exact SBL.len (by rw [sizeLine_eq] at hx; omega) ⟨.int _, _, _, ⟨_, rfl⟩, hs.toks _, h⟩
theorem Rel.isList (hs : Rel C ρ σ s) {a : Addr} {xs : List AV} (hm : (a, AO.list xs) ∈ σ) : ∃ vs, RVs xs vs ∧ s.heap.IsList a vs.toArray := by
  obtain ⟨o, e, _, _, vs, n, r, rfl⟩ := hs.led _ hm
  exact ⟨vs, r, _, e, rfl, n, rfl⟩
theorem b_len_list {a : Addr} {xs : List AV} (hm : (a, AO.list xs) ∈ σ) (hx : xs.length ≤ sizeLine) (h : Q (.int xs.length) ρ σ) : ACall C E (.builtin "len") [.ref a] Q ρ σ := by
  intro vs hv s hs
  obtain ⟨_, rfl, rfl⟩ := RVs.one' (as := []) hv
  obtain ⟨ws, r, hl⟩ := hs.isList hm
  refine len_list hl (by rw [sizeLine_eq] at hx; rw [List.size_toArray, r.length]; omega) ?_
  rw [List.size_toArray, r.length]
  exact ⟨.int _, _, _, ⟨_, rfl⟩, hs.toks _, h⟩
theorem Rel.frame (hs : Rel C ρ σ s) : ∃ m news, Fr C.h₀ C.L s.heap m ∧ LocOk ρ m ∧ News C.h₀ C.L s.heap news ∧ (∀ p ∈ σ, ∃ o, (p.1, o) ∈ news ∧ RO p.2 o) := by
  obtain ⟨m, F, l⟩ := hs.fr
  refine ⟨m, σ.filterMap fun p => (s.heap.get? p.1).map fun o => (p.1, o), F, l, fun p hp => ?_, fun p hp => ?_⟩
  · obtain ⟨q, hq, e⟩ := List.mem_filterMap.mp hp
    obtain ⟨o, e1, e2, e3, _⟩ := hs.led q hq
    rw [e1] at e
    cases e
    exact ⟨e1, e2, e3⟩
  · obtain ⟨o, e1, e2, e3, r⟩ := hs.led p hp
    exact ⟨o, List.mem_filterMap.mpr ⟨p, hp, by rw [e1]; rfl⟩, r⟩
theorem Rel.back (hs : Rel C ρ σ s) {m : Str → Option Value} {news : List (Addr × Obj)} {h' : Heap} (hl : LocOk ρ m) (F : Fr C.h₀ C.L h' m) (N : News C.h₀ C.L h' news) (hm : ∀ p ∈ σ, ∃ o, (p.1, o) ∈ news ∧ RO p.2 o) (n : Nat) : Rel C ρ σ { s with heap := h', toks := n } := by
  obtain ⟨⟨h'', tk, e⟩, _, _, nd⟩ := hs
  subst e
  refine ⟨⟨h', n, rfl⟩, ⟨m, F, hl⟩, fun p hp => ?_, nd⟩
  obtain ⟨o, hn, r⟩ := hm p hp
  exact ⟨o, (N _ hn).1, (N _ hn).2.1, (N _ hn).2.2, r⟩
theorem b_max {a b : Int} (hh : C.A.handled = none) (h : Q (.int (if b > a then b else a)) ρ σ) : ACall C E (.builtin "max") [.int a, .int b] Q ρ σ := by
  intro vs hv s hs
  obtain ⟨_, _, rfl, ⟨t, rfl⟩, ⟨u, rfl⟩⟩ := RVs.two' hv
  obtain ⟨m, news, F, hl, N, hm⟩ := hs.frame
  exact max_two_N hh F N fun h' tk F' N' => ⟨.int _, _, _, ⟨_, rfl⟩, hs.back hl F' N' hm _, h⟩
theorem b_startswith {x y : Str} (h : Q (.bool (Txt.startswith x y)) ρ σ) : ACall C E (.builtin "str.startswith") [.str x, .str y] Q ρ σ := by
  intro vs hv s hs
  obtain ⟨_, _, rfl, ⟨t, rfl⟩, ⟨u, rfl⟩⟩ := RVs.two' hv
  exact SC.startswith ⟨.bool _, _, _, rfl, hs, h⟩
theorem b_endswith {x y : Str} (h : Q (.bool (Txt.endswith x y)) ρ σ) : ACall C E (.builtin "str.endswith") [.str x, .str y] Q ρ σ := by
  intro vs hv s hs
  obtain ⟨_, _, rfl, ⟨t, rfl⟩, ⟨u, rfl⟩⟩ := RVs.two' hv
  exact SC.endswith ⟨.bool _, _, _, rfl, hs, h⟩
theorem m_startswith {x : Str} {pl : Sem Bool} {P : Value → List AV → Loc → Sto → Prop} (h : P (.builtin "str.startswith") [.str x] ρ σ) : AMeth C E (.str x) (Str.ofString "startswith") pl P ρ σ := by
  rintro _ ⟨t, rfl⟩ s hs
  exact GM.startswith ⟨[.str x], _, _, .one ⟨_, rfl⟩, hs, h⟩
theorem m_endswith {x : Str} {pl : Sem Bool} {P : Value → List AV → Loc → Sto → Prop} (h : P (.builtin "str.endswith") [.str x] ρ σ) : AMeth C E (.str x) (Str.ofString "endswith") pl P ρ σ := by
  rintro _ ⟨t, rfl⟩ s hs
  exact GM.endswith ⟨[.str x], _, _, .one ⟨_, rfl⟩, hs, h⟩
theorem m_join {x : Str} {pl : Sem Bool} {P : Value → List AV → Loc → Sto → Prop} (h : P (.builtin "str.join") [.str x] ρ σ) : AMeth C E (.str x) (Str.ofString "join") pl P ρ σ := by
  rintro _ ⟨t, rfl⟩ s hs
  exact GM.join ⟨[.str x], _, _, .one ⟨_, rfl⟩, hs, h⟩
theorem m_append {a : Addr} {xs : List AV} {pl : Sem Bool} {P : Value → List AV → Loc → Sto → Prop} (hm : (a, AO.list xs) ∈ σ) (h : P (.builtin "list.append") [.ref a] ρ σ) : AMeth C E (.ref a) (Str.ofString "append") pl P ρ σ := by
  rintro _ rfl s hs
  obtain ⟨o, e, _, _, vs, n, r, rfl⟩ := hs.led _ hm
  exact Calls.getMethod_list_append e rfl rfl ⟨[.ref a], _, _, .one rfl, hs, h⟩
theorem b_append {a : Addr} {xs : List AV} {v : AV} {σ' : Sto} (hσ : Pick (a, .list xs) σ σ') (hx : xs.length ≤ sizeLine) (h : Q .none ρ ((a, .list (xs ++ [v])) :: σ')) : ACall C E (.builtin "list.append") [.ref a, v] Q ρ σ := by
  intro vs hv s hs
  obtain ⟨_, w, rfl, rfl, rw'⟩ := RVs.two' hv
  have hs := hs.perm hσ
  obtain ⟨o, e, _, _, us, n, r, rfl⟩ := hs.led (a, .list xs) (.head _)
  refine append_at e (fun h' hsb hg => ⟨.none, _, _, rfl, hs.updP hsb hg (ao' := .list (xs ++ [v])) ⟨us ++ [w], n + 1, r.append (.one rw'), ?_⟩ s.toks, h⟩) (by rw [List.size_toArray, r.length]; exact hx)
  rw [List.push_toArray]
/-- join of a list of texts -/
theorem RVs.strs {xs : List Str} {vs : List Value} (h : RVs (xs.map AV.str) vs) : ∃ l : List (Str × Tok), vs = strValues l ∧ l.map (·.1) = xs := by
  induction xs generalizing vs with
  | nil => cases h; exact ⟨[], rfl, rfl⟩
  | cons x xs ih =>
    cases h with
    | cons h1 h2 =>
      obtain ⟨t, rfl⟩ := h1
      obtain ⟨l, rfl, rfl⟩ := ih h2
      exact ⟨(x, t) :: l, rfl, rfl⟩
theorem b_join {x : Str} {a : Addr} {xs : List Str} (hm : (a, AO.list (xs.map AV.str)) ∈ σ) (ho : JoinOk x xs = true) (h : Q (.str (Txt.join x xs)) ρ σ) : ACall C E (.builtin "str.join") [.str x, .ref a] Q ρ σ := by
  intro vs hv s hs
  obtain ⟨_, _, rfl, ⟨t, rfl⟩, rfl⟩ := RVs.two' hv
  obtain ⟨ws, r, hl⟩ := hs.isList hm
  obtain ⟨l, rfl, el⟩ := r.strs
  exact SC.join hl el ho fun t' k => ⟨.str _, _, _, ⟨_, rfl⟩, hs.toks _, h⟩
theorem s_item_str {value slice : Expr} {x : Str} {i : Int} (h1 : -(x.length : Int) ≤ i) (h2 : i < x.length) (hx : x.length ≤ sizeLine) (h : Q (.str (Txt.item x i)) ρ σ)
    (hsl : ∀ t u, subscripted slice false (.str x t) (.int i u) = operate [.str x t, .int i u] (getItem (.str x t) (.int i u)) := by intro _ _; with_unfolding_all rfl)
    (ht : ∀ t r, letTemporaryGo value (.str x t) r = pure () := by intro _ _; with_unfolding_all rfl) : A2 C E (subscriptTail value slice) (.str x) (.int i) Q ρ σ := by
  rintro _ _ ⟨t, rfl⟩ ⟨u, rfl⟩ s hs
  refine item_str ?_ h1 h2 (fun _ => ⟨.str _, _, _, ⟨_, rfl⟩, hs.toks _, h⟩) (hsl _ _) (ht _)
  rw [sizeLine_eq] at hx
  unfold fitsSsize
  simp only [Bool.not_eq_true', Bool.or_eq_false_iff, decide_eq_false_iff_not]
  omega
/-- a slice of a value -/
def ASl (C : Cx) (E : Value → Shared → Prop) (value slice : Expr) (o a b : AV) (Q : AV → Loc → Sto → Prop) (ρ : Loc) (σ : Sto) : Prop :=
  ∀ vo va vb s, RV o vo → RV a va → RV b vb → Rel C ρ σ s → wpAny (model C.prog C.w) C.A (subscriptTail value slice vo (.ref s.heap.objs.size)) (fun r s' => ∃ ar ρ' σ', RV ar r ∧ Rel C ρ' σ' s' ∧ Q ar ρ' σ') E
    { s with heap := s.heap.push { cls := .type "slice", data := .fields #[va, vb, .none] } }
theorem aw_SubSlice {value : Expr} {l u : Option Expr} {p : Pos} (h : AW RV C E (eval value env) (fun o ρ₁ σ₁ => AW RV C E (evalPart l env) (fun a ρ₂ σ₂ => AW RV C E (evalPart u env) (fun b ρ₃ σ₃ => ASl C E value (.Slice l u none p) o a b Q ρ₃ σ₃) ρ₂ σ₂) ρ₁ σ₁) ρ σ) :
    AW RV C E (eval (.Subscript value (.Slice l u none p) pos) env) Q ρ σ :=
  fun _ hs => Subscript_ (h.lift1 hs fun vo _ _ _ _ ro hs₁ h₁ => wpAny_Slice (h₁.lift1 hs₁ fun va _ _ _ _ ra hs₂ h₂ => h₂.lift1 hs₂ fun vb _ _ _ _ rb hs₃ h₃ => wpAny_pure (h₃ vo va vb _ ro ra rb hs₃)))
theorem sl_str_nn {value slice : Expr} {x : Str} (hx : x.length ≤ sizeLine) (h : Q (.str (Txt.slice x none none)) ρ σ)
    (hsl : ∀ t r, subscripted slice false (.str x t) (.ref r) = operate [.ref r, .str x t] (getItem (.str x t) (.ref r)) := by intro _ _; with_unfolding_all rfl)
    (ht : ∀ t r, letTemporaryGo value (.str x t) r = pure () := by intro _ _; with_unfolding_all rfl) : ASl C E value slice (.str x) .none .none Q ρ σ := by
  rintro _ _ _ s ⟨t, rfl⟩ rfl rfl hs
  obtain ⟨m, news, F, hl, N, hm⟩ := hs.frame
  exact slice_strN_nn F N (fun h' t' k F' N' => ⟨.str _, _, _, ⟨_, rfl⟩, hs.back hl F' N' hm _, h⟩) (hsl _ _) (ht _) hx
theorem sl_str_ns {value slice : Expr} {x : Str} {j : Int} (hx : x.length ≤ sizeLine) (h : Q (.str (Txt.slice x none (some j))) ρ σ)
    (hsl : ∀ t r, subscripted slice false (.str x t) (.ref r) = operate [.ref r, .str x t] (getItem (.str x t) (.ref r)) := by intro _ _; with_unfolding_all rfl)
    (ht : ∀ t r, letTemporaryGo value (.str x t) r = pure () := by intro _ _; with_unfolding_all rfl) : ASl C E value slice (.str x) .none (.int j) Q ρ σ := by
  rintro _ _ _ s ⟨t, rfl⟩ rfl ⟨u, rfl⟩ hs
  obtain ⟨m, news, F, hl, N, hm⟩ := hs.frame
  exact slice_strN_ns F N (fun h' t' k F' N' => ⟨.str _, _, _, ⟨_, rfl⟩, hs.back hl F' N' hm _, h⟩) (hsl _ _) (ht _) hx
theorem sl_str_sn {value slice : Expr} {x : Str} {i : Int} (hx : x.length ≤ sizeLine) (h : Q (.str (Txt.slice x (some i) none)) ρ σ)
    (hsl : ∀ t r, subscripted slice false (.str x t) (.ref r) = operate [.ref r, .str x t] (getItem (.str x t) (.ref r)) := by intro _ _; with_unfolding_all rfl)
    (ht : ∀ t r, letTemporaryGo value (.str x t) r = pure () := by intro _ _; with_unfolding_all rfl) : ASl C E value slice (.str x) (.int i) .none Q ρ σ := by
  rintro _ _ _ s ⟨t, rfl⟩ ⟨u, rfl⟩ rfl hs
  obtain ⟨m, news, F, hl, N, hm⟩ := hs.frame
  exact slice_strN_sn F N (fun h' t' k F' N' => ⟨.str _, _, _, ⟨_, rfl⟩, hs.back hl F' N' hm _, h⟩) (hsl _ _) (ht _) hx
theorem sl_str_ss {value slice : Expr} {x : Str} {i j : Int} (hx : x.length ≤ sizeLine) (h : Q (.str (Txt.slice x (some i) (some j))) ρ σ)
    (hsl : ∀ t r, subscripted slice false (.str x t) (.ref r) = operate [.ref r, .str x t] (getItem (.str x t) (.ref r)) := by intro _ _; with_unfolding_all rfl)
    (ht : ∀ t r, letTemporaryGo value (.str x t) r = pure () := by intro _ _; with_unfolding_all rfl) : ASl C E value slice (.str x) (.int i) (.int j) Q ρ σ := by
  rintro _ _ _ s ⟨t, rfl⟩ ⟨u, rfl⟩ ⟨w, rfl⟩ hs
  obtain ⟨m, news, F, hl, N, hm⟩ := hs.frame
  exact slice_strN_ss F N (fun h' t' k F' N' => ⟨.str _, _, _, ⟨_, rfl⟩, hs.back hl F' N' hm _, h⟩) (hsl _ _) (ht _) hx
-- ranges
abbrev rangeO (a b : Int) : AO := .pred fun o => ∃ t u v, o = { cls := .type "range", data := .fields #[.int a t, .int b u, .int 1 v] }
theorem b_range1 {n : Int} (h : ∀ r, Q (.ref r) ρ ((r, rangeO 0 n) :: σ)) : ACall C E (.type "range") [.int n] Q ρ σ := by
  intro vs hv s hs
  obtain ⟨_, rfl, t, rfl⟩ := RVs.one' (as := []) hv
  exact call_range_1 ⟨.ref _, _, _, rfl, hs.push (ao := rangeO 0 n) ⟨_, _, _, rfl⟩ rfl _, h _⟩
theorem b_range2 {a n : Int} (h : ∀ r, Q (.ref r) ρ ((r, rangeO a n) :: σ)) : ACall C E (.type "range") [.int a, .int n] Q ρ σ := by
  intro vs hv s hs
  obtain ⟨_, _, rfl, ⟨t, rfl⟩, ⟨u, rfl⟩⟩ := RVs.two' hv
  exact call_range_2 ⟨.ref _, _, _, rfl, hs.push (ao := rangeO a n) ⟨_, _, _, rfl⟩ rfl _, h _⟩
theorem o_add_list {a b : Addr} {xs ys : List AV} (ha : (a, AO.list xs) ∈ σ) (hb : (b, AO.list ys) ∈ σ) (hz : xs.length + ys.length ≤ sizeLine) (h : ∀ r, Q (.ref r) ρ ((r, .list (xs ++ ys)) :: σ)) : Op2 C E .Add (.ref a) (.ref b) Q ρ σ := by
  rintro _ _ rfl rfl s hs
  obtain ⟨m, news, F, hl, N, hm⟩ := hs.frame
  obtain ⟨vs, rv, hv⟩ := hs.isList ha
  obtain ⟨ws, rw', hw⟩ := hs.isList hb
  refine add_arrays F N hv hw (fun h' F' N' => ⟨.ref _, _, ((s.heap.objs.size, .list (xs ++ ys)) :: σ), rfl, ?_, h _⟩) (by simp only [List.size_toArray, rv.length, rw'.length]; exact hz)
  have hfr := hs.fresh
  have hb1 := hs.back (h' := h') hl F' N' (fun p hp => by obtain ⟨o, x, r⟩ := hm p hp; exact ⟨o, .tail _ x, r⟩) s.toks
  refine ⟨hb1.shape, hb1.fr, fun p hp => ?_, ?_⟩
  · rcases List.mem_cons.mp hp with rfl | hp
    · have := N' _ (.head _)
      exact ⟨_, this.1, this.2.1, this.2.2, vs ++ ws, 0, rv.append rw', rfl⟩
    · exact hb1.led p hp
  · rw [List.map_cons, List.nodup_cons]
    refine ⟨fun hx => ?_, hb1.nd⟩
    obtain ⟨p, hp, e⟩ := List.mem_map.mp hx
    exact hfr.2.2 p hp e
end

-- loops
/-- what an exception within a loop's turn meets -/
abbrev LE (C : Cx) (env : Env) (E : Value → Shared → Prop) : Value → Shared → Prop := notedBy (model C.prog C.w) C.A env (cameBackBy (model C.prog C.w) C.A env E)
def RL (C : Cx) (env : Env) (E : Value → Shared → Prop) (QF : AF → Loc → Sto → Prop) (r : Result) (s' : Shared) : Prop := match r with
  | .ok f => ∃ f' ρ' σ', RF f' f ∧ Rel C ρ' σ' s' ∧ QF f' ρ' σ'
  | .error e => cameBackBy (model C.prog C.w) C.A env E e s'
def AWhile (C : Cx) (E : Value → Shared → Prop) (test : Expr) (body : List Stmt) (env : Env) (QF : AF → Loc → Sto → Prop) (ρ : Loc) (σ : Sto) : Prop :=
  ∀ s, Rel C ρ σ s → codeAny (model C.prog C.w) C.A (.whileLoop test body [] env) (RL C env E QF) s
def AFor (C : Cx) (E : Value → Shared → Prop) (target : Expr) (I : Addr) (body : List Stmt) (env : Env) (QF : AF → Loc → Sto → Prop) (ρ : Loc) (σ : Sto) : Prop :=
  ∀ s, Rel C ρ σ s → codeAny (model C.prog C.w) C.A (.forLoop target (.ref I) body [] env) (RL C env E QF) s
/-- what a turn's end asks: go on, or leave -/
def Turn (QF : AF → Loc → Sto → Prop) (again : Loc → Sto → Prop) : AF → Loc → Sto → Prop := fun f ρ σ => match f with
  | .next => again ρ σ
  | .cont => again ρ σ
  | .brk => QF .next ρ σ
  | .ret v => QF (.ret v) ρ σ
section
variable {C : Cx} {E : Value → Shared → Prop} {ρ : Loc} {σ : Sto} {env : Env} {pos : Pos} {QF : AF → Loc → Sto → Prop} {test : Expr} {body : List Stmt} {target : Expr} {I : Addr}
theorem ex_while (h : AWhile C E test body env QF ρ σ) : AW RF C E (exec (.While test body [] pos) env) QF ρ σ := by
  intro s hs
  refine wpAny_While (codeAny_mono (h s hs) fun r s' hr => ?_)
  cases r with
  | ok f => exact hr
  | error e => exact hr
theorem AWhile.loc {ρ' : Loc} (h : AWhile C E test body env QF ρ' σ) (hs : ∀ x v, ρ'.lookup x = some v → ρ.lookup x = some v) : AWhile C E test body env QF ρ σ := fun s hr => h s (hr.loc hs)
theorem AWhile.sublist {σ' : Sto} (h : AWhile C E test body env QF ρ σ') (hs : List.Sublist σ' σ) : AWhile C E test body env QF ρ σ :=
  fun s hr => h s (hr.sub (fun _ hp => hs.subset hp) ((hs.map _).nodup hr.nd))
theorem AWhile.sub {σ' : Sto} (h : AWhile C E test body env QF ρ σ') (hs : ∀ p ∈ σ', p ∈ σ) (nd : (σ.map (·.1)).Nodup → (σ'.map (·.1)).Nodup) : AWhile C E test body env QF ρ σ :=
  fun s hr => h s (hr.sub hs (nd hr.nd))
theorem wh_turn (h : AW (Eq (α := Bool)) C (LE C env E) (isTrue test env (eval test env)) (fun b ρ₁ σ₁ => if b = true then AW RF C (LE C env E) (execs body env) (Turn QF (AWhile C E test body env QF)) ρ₁ σ₁ else QF .next ρ₁ σ₁) ρ σ) :
    AWhile C E test body env QF ρ σ := by
  intro s hs
  refine codeAny_loop' rfl (fun _ s' => s' = s) (fun n s' e => ?_) 0 rfl
  subst e
  show wpAny _ C.A ((whileTurn test body [] env).onRaise (fun x => do noteFrame x env; theTreesLotGoes x)) _ _ s'
  refine wpAny_noted ?_
  simp only [whileTurn]
  refine wpAny_bind (h.lift1 hs fun b b' ρ₁ σ₁ s₁ e hs₁ h₁ => ?_)
  subst e
  cases b' with
  | false =>
    simp only [Bool.false_eq_true, if_false] at h₁ ⊢
    exact wpAny_bind (wpAny_execs_nil (wpAny_pure ⟨.next, _, _, rfl, hs₁, h₁⟩))
  | true =>
    simp only [if_true] at h₁ ⊢
    refine wpAny_bind (h₁.lift1 hs₁ fun f f' ρ₂ σ₂ s₂ rf hs₂ h₂ => ?_)
    cases f' with
    | next => cases rf; exact wpAny_pure (.inr ⟨rfl, h₂ _ hs₂⟩)
    | cont => cases rf; exact wpAny_pure (.inr ⟨rfl, h₂ _ hs₂⟩)
    | brk => cases rf; exact wpAny_pure ⟨.next, _, _, rfl, hs₂, h₂⟩
    | ret a => obtain ⟨v, rfl, rv⟩ := rf; exact wpAny_pure ⟨.ret a, _, _, ⟨v, rfl, rv⟩, hs₂, h₂⟩
theorem AFor.loc {ρ' : Loc} (h : AFor C E target I body env QF ρ' σ) (hs : ∀ x v, ρ'.lookup x = some v → ρ.lookup x = some v) : AFor C E target I body env QF ρ σ := fun s hr => h s (hr.loc hs)
theorem AFor.sub {σ' : Sto} (h : AFor C E target I body env QF ρ σ') (hs : ∀ p ∈ σ', p ∈ σ) (nd : (σ.map (·.1)).Nodup → (σ'.map (·.1)).Nodup) : AFor C E target I body env QF ρ σ :=
  fun s hr => h s (hr.sub hs (nd hr.nd))
theorem AFor.sublist {σ' : Sto} (h : AFor C E target I body env QF ρ σ') (hs : List.Sublist σ' σ) : AFor C E target I body env QF ρ σ :=
  h.sub (fun _ hp => hs.subset hp) fun nd => (hs.map _).nodup nd
/-- the iterator at I gives v, then holds ao' -/
def NxI (C : Cx) (I : Addr) (ao : AO) (σ' : Sto) (v : AV) (ao' : AO) : Prop :=
  ∀ ρ s (E : Value → Shared → Prop) (Q : Option Value → Shared → Prop), Rel C ρ ((I, ao) :: σ') s → (∀ vv s', RV v vv → Rel C ρ ((I, ao') :: σ') s' → Q (some vv) s') → wpAny (model C.prog C.w) C.A (pyNext (.ref I)) Q E s
def NxE (C : Cx) (I : Addr) (ao : AO) (σ' : Sto) : Prop :=
  ∀ ρ s (E : Value → Shared → Prop) (Q : Option Value → Shared → Prop), Rel C ρ ((I, ao) :: σ') s → (∀ s', Rel C ρ σ' s' → Q none s') → wpAny (model C.prog C.w) C.A (pyNext (.ref I)) Q E s
/-- the iterator is its own iterator -/
def NxS (C : Cx) (I : Addr) (ao : AO) : Prop :=
  ∀ o, RO ao o → ∀ s (E : Value → Shared → Prop) (Q : Value → Shared → Prop), s.heap.get? I = some o → Q (.ref I) s → wpAny (model C.prog C.w) C.A (pyIter (.ref I)) Q E s
/-- assigning to a target -/
def AAs (C : Cx) (E : Value → Shared → Prop) (env : Env) (target : Expr) (I : Addr) (v : AV) (Q : Loc → Sto → Prop) (ρ : Loc) (σ : Sto) : Prop :=
  ∀ vv, RV v vv → AW (Eq (α := Unit)) C E (do letOwnedTupleGo target (.ref I) vv; assign target env vv) (fun _ => Q) ρ σ
theorem as_name {x : Str} {px : Pos} {v : AV} {Q : Loc → Sto → Prop} (h : ASt C E env x v Q ρ σ) : AAs C E env (.Name x px) I v Q ρ σ := by
  intro vv rv s hs
  refine wpAny_bind (wpAny_pure ?_)
  exact wpAny_assign_Name (h vv rv s hs)
theorem for_item {σ' : Sto} {ao ao' : AO} {v : AV} (hσ : Pick (I, ao) σ σ') (nx : NxI C I ao σ' v ao')
    (h : AAs C (LE C env E) env target I v (fun ρ₁ σ₁ => AW RF C (LE C env E) (execs body env) (Turn QF (AFor C E target I body env QF)) ρ₁ σ₁) ρ ((I, ao') :: σ')) :
    AFor C E target I body env QF ρ σ := by
  intro s hs
  have hs := hs.perm hσ
  refine codeAny_loop' rfl (fun _ s' => s' = s) (fun n s' e => ?_) 0 rfl
  subst e
  show wpAny _ C.A ((forTurn target (.ref I) body [] env).onRaise (fun x => do noteFrame x env; theTreesLotGoes x)) _ _ s'
  refine wpAny_noted ?_
  simp only [forTurn]
  refine wpAny_bind (wpAny_standAt (wpAny_bind (wpAny_onRaise (nx ρ s' _ _ hs fun vv s₁ rv hs₁ => ?_))))
  have h₁ := h vv rv s₁ hs₁
  have h₂ : wpAny (model C.prog C.w) C.A (do letOwnedTupleGo target (.ref I) vv; assign target env vv) (fun _ s₂ => wpAny (model C.prog C.w) C.A (do
      match ← execs body env with
      | .next | .cont => again (.forLoop target (.ref I) body [] env)
      | .brk => pure (.done .next)
      | .ret v => pure (.done (.ret v))) (fun fin s'' => match fin with
        | .done f => RL C env E QF (.ok f) s''
        | .again c' => (c' = Code.forLoop target (.ref I) body [] env ∧ ∃ m, m < n ∧ s'' = s') ∨ (c'.quiet = true ∧ codeAny (model C.prog C.w) C.A c' (RL C env E QF) s'')) (LE C env E) s₂) (LE C env E) s₁ := by
    refine wpAny_mono h₁ (fun _ s₂ ⟨_, ρ₂, σ₂, _, hs₂, q⟩ => ?_) fun _ _ e => e
    refine wpAny_bind (q.lift1 hs₂ fun f f' ρ₃ σ₃ s₃ rf hs₃ h₃ => ?_)
    cases f' with
    | next => cases rf; exact wpAny_pure (.inr ⟨rfl, h₃ _ hs₃⟩)
    | cont => cases rf; exact wpAny_pure (.inr ⟨rfl, h₃ _ hs₃⟩)
    | brk => cases rf; exact wpAny_pure ⟨.next, _, _, rfl, hs₃, h₃⟩
    | ret a => obtain ⟨v, rfl, rv⟩ := rf; exact wpAny_pure ⟨.ret a, _, _, ⟨v, rfl, rv⟩, hs₃, h₃⟩
  have h₃ := wpAny_bind h₂
  rw [bind_assoc] at h₃
  exact wpAny_mono h₃ (fun fin s' hf => hf) fun _ _ e => e
theorem for_end {σ' : Sto} {ao : AO} (hσ : Pick (I, ao) σ σ') (nx : NxE C I ao σ') (h : QF .next ρ σ') : AFor C E target I body env QF ρ σ := by
  intro s hs
  have hs := hs.perm hσ
  refine codeAny_loop' rfl (fun _ s' => s' = s) (fun n s' e => ?_) 0 rfl
  subst e
  show wpAny _ C.A ((forTurn target (.ref I) body [] env).onRaise (fun x => do noteFrame x env; theTreesLotGoes x)) _ _ s'
  refine wpAny_noted ?_
  simp only [forTurn]
  refine wpAny_bind (wpAny_standAt (wpAny_bind (wpAny_onRaise (nx ρ s' _ _ hs fun s₁ hs₁ => wpAny_pure (.inr ⟨rfl, codeAny_block (wpAny_execs_nil ⟨.next, _, _, rfl, hs₁, h⟩)⟩)))))
/-- making the iterator -/
def AIt (C : Cx) (E : Value → Shared → Prop) (a : AV) (P : Addr → Loc → Sto → Prop) (ρ : Loc) (σ : Sto) : Prop :=
  ∀ v, RV a v → ∀ s, Rel C ρ σ s → wpAny (model C.prog C.w) C.A (pyIter v) (fun it s' => ∃ I ρ' σ', it = .ref I ∧ Rel C ρ' σ' s' ∧ P I ρ' σ') E s
theorem ex_for {iter : Expr} (h : AW RV C E (eval iter env) (fun a ρ₁ σ₁ => AIt C E a (fun I ρ₂ σ₂ => AFor C E target I body env QF ρ₂ σ₂) ρ₁ σ₁) ρ σ) (hf : ∀ x, foldedSetIterable iter env x = pure x := by intro _; rfl) :
    AW RF C E (exec (.For target iter body [] pos) env) QF ρ σ := by
  intro s hs
  refine wpAny_For (h.lift1 hs fun v a _ _ _ rv hs₁ h₁ => wpAny_mono (h₁ v rv _ hs₁) (fun it s' ⟨I, ρ', σ', e, hs₂, h₂⟩ => ?_) fun _ _ e => e) hf
  subst e
  refine codeAny_mono (h₂ _ hs₂) fun r s' hr => ?_
  cases r with
  | ok f => exact hr
  | error e => exact hr
abbrev literO (ax : Addr) (i : Nat) : AO := .pred fun o => o.cls = .type "list_iterator" ∧ o.data = .fields #[.ref ax, .int i 0]
theorem it_list {a : Addr} {xs : List AV} {P : Addr → Loc → Sto → Prop} (hm : (a, AO.list xs) ∈ σ) (h : ∀ I, P I ρ ((I, literO a 0) :: σ)) : AIt C E (.ref a) P ρ σ := by
  rintro _ rfl s hs
  obtain ⟨vs, rv, hv⟩ := hs.isList hm
  exact wpAny_pyIter_list hv ⟨_, _, _, rfl, hs.push (ao := literO a 0) ⟨rfl, rfl⟩ rfl s.toks, h _⟩
theorem nx_list {ax : Addr} {i : Nat} {xs : List AV} {v : AV} {σ' : Sto} (hm : (ax, AO.list xs) ∈ σ') (hv : xs[i]? = some v) : NxI C I (literO ax i) σ' v (literO ax (i + 1)) := by
  intro ρ s E Q hs k
  obtain ⟨vs, rv, hl⟩ := (hs.appL (pre := [])).isList hm
  obtain ⟨vv, e, r⟩ := rv.get hv
  obtain ⟨o, ho, _, _, hc, hd⟩ := hs.led (I, literO ax i) (.head _)
  refine wpAny_pyNext_list_item (l := ax) (i := i) ⟨o, ho, hc, hd⟩ hl (by simpa using e) fun h' hi hsb => ?_
  obtain ⟨o', ho', hc', hd'⟩ := hi
  exact k vv _ r (hs.updP hsb ho' (ao' := literO ax (i + 1)) ⟨hc', hd'⟩ s.toks)
theorem nx_list_end {ax : Addr} {i : Nat} {xs : List AV} {σ' : Sto} (hh : C.A.handled = none) (hm : (ax, AO.list xs) ∈ σ') (hv : xs.length ≤ i) : NxE C I (literO ax i) σ' := by
  intro ρ s E Q hs k
  obtain ⟨vs, rv, hl⟩ := (hs.appL (pre := [])).isList hm
  obtain ⟨o, ho, _, _, hc, hd⟩ := hs.led (I, literO ax i) (.head _)
  refine wpAny_pyNext_list_end hh (l := ax) (i := i) ⟨o, ho, hc, hd⟩ hl (by simp [rv.length]; exact hv) fun h' he => ?_
  exact k _ (hs.extP he s.toks)
/-- a list of the heap below -/
def BaseL (C : Cx) (a : Addr) (xs : List AV) : Prop := ∃ vs, RVs xs vs ∧ C.h₀.IsList a vs.toArray
theorem Rel.baseL {s : Shared} (hs : Rel C ρ σ s) {a : Addr} {xs : List AV} (hb : BaseL C a xs) : ∃ vs, RVs xs vs ∧ s.heap.IsList a vs.toArray := by
  obtain ⟨vs, rv, hl⟩ := hb
  obtain ⟨m, F, _⟩ := hs.fr
  exact ⟨vs, rv, hl.at fun o e => F.keep a o e⟩
theorem it_base {a : Addr} {xs : List AV} {P : Addr → Loc → Sto → Prop} (hb : BaseL C a xs) (h : ∀ I, P I ρ ((I, literO a 0) :: σ)) : AIt C E (.ref a) P ρ σ := by
  rintro _ rfl s hs
  obtain ⟨vs, rv, hv⟩ := hs.baseL hb
  exact wpAny_pyIter_list hv ⟨_, _, _, rfl, hs.push (ao := literO a 0) ⟨rfl, rfl⟩ rfl s.toks, h _⟩
theorem nx_base {ax : Addr} {i : Nat} {xs : List AV} {v : AV} {σ' : Sto} (hb : BaseL C ax xs) (hv : xs[i]? = some v) : NxI C I (literO ax i) σ' v (literO ax (i + 1)) := by
  intro ρ s E Q hs k
  obtain ⟨vs, rv, hl⟩ := hs.baseL hb
  obtain ⟨vv, e, r⟩ := rv.get hv
  obtain ⟨o, ho, _, _, hc, hd⟩ := hs.led (I, literO ax i) (.head _)
  refine wpAny_pyNext_list_item (l := ax) (i := i) ⟨o, ho, hc, hd⟩ hl (by simpa using e) fun h' hi hsb => ?_
  obtain ⟨o', ho', hc', hd'⟩ := hi
  exact k vv _ r (hs.updP hsb ho' (ao' := literO ax (i + 1)) ⟨hc', hd'⟩ s.toks)
theorem nx_base_end {ax : Addr} {i : Nat} {xs : List AV} {σ' : Sto} (hh : C.A.handled = none) (hb : BaseL C ax xs) (hv : xs.length ≤ i) : NxE C I (literO ax i) σ' := by
  intro ρ s E Q hs k
  obtain ⟨vs, rv, hl⟩ := hs.baseL hb
  obtain ⟨o, ho, _, _, hc, hd⟩ := hs.led (I, literO ax i) (.head _)
  refine wpAny_pyNext_list_end hh (l := ax) (i := i) ⟨o, ho, hc, hd⟩ hl (by simp [rv.length]; exact hv) fun h' he => ?_
  exact k _ (hs.extP he s.toks)
abbrev riterO (x left : Int) : AO := .pred fun o => o = { cls := .type "range_iterator", data := .fields #[rawInt x, rawInt left, rawInt 1] }
theorem it_range {a : Addr} {x y : Int} {P : Addr → Loc → Sto → Prop} (hm : (a, rangeO x y) ∈ σ) (hs1 : Builtin.Range.small x y 1 = true) (h : ∀ I, P I ρ ((I, riterO x (if x < y then y - x else 0)) :: σ)) : AIt C E (.ref a) P ρ σ := by
  rintro _ rfl s hs
  obtain ⟨o, e, _, _, t, u, v, rfl⟩ := hs.led _ hm
  refine wpAny_pyIter_range (r := a) (a := x) (b := y) (c := 1) e hs1 ⟨_, _, _, rfl, hs.push (ao := riterO x (if x < y then y - x else 0)) ?_ rfl s.toks, h _⟩
  rw [rangeSize_one]; rfl
theorem nx_range {x left : Int} {σ' : Sto} (hl : 0 < left) : NxI C I (riterO x left) σ' (.int x) (riterO (x + 1) (left - 1)) := by
  intro ρ s E Q hs k
  obtain ⟨o, ho, _, _, e⟩ := hs.led (I, riterO x left) (.head _)
  subst e
  refine wpAny_pyNext_range_item (it := I) (x := x) (left := left) (step := 1) ho hl fun h' hi hsb => ?_
  exact k _ _ ⟨_, rfl⟩ (hs.updP hsb hi (ao' := riterO (x + 1) (left - 1)) rfl _)
theorem nx_range_end {x left : Int} {σ' : Sto} (hh : C.A.handled = none) (hl : left ≤ 0) : NxE C I (riterO x left) σ' := by
  intro ρ s E Q hs k
  obtain ⟨o, ho, _, _, e⟩ := hs.led (I, riterO x left) (.head _)
  subst e
  exact wpAny_pyNext_range_end (it := I) (x := x) (left := left) (step := 1) hh ho hl fun h' he => k _ (hs.extP he s.toks)
theorem ns_list {ax : Addr} {i : Nat} : NxS C I (literO ax i) := fun o ho s E Q e hq => wpAny_pyIter_listiter (l := ax) (i := i) ⟨o, e, ho.1, ho.2⟩ hq
theorem ns_range {x left : Int} : NxS C I (riterO x left) := fun o ho s E Q e hq => by
  have ho' : o = _ := ho
  subst ho'
  exact wpAny_pyIter_rangeiter (x := x) (left := left) (step := 1) e hq
theorem AFor.subS {σ' : Sto} (h : AFor C E target I body env QF ρ σ') (hs : SubS σ' σ) : AFor C E target I body env QF ρ σ := fun s hr => h s (hr.subS hs)
theorem AWhile.subS {σ' : Sto} (h : AWhile C E test body env QF ρ σ') (hs : SubS σ' σ) : AWhile C E test body env QF ρ σ := fun s hr => h s (hr.subS hs)
end
end Mine
namespace Mine
open PySem PySem.W PySem.Spec PySem.Calls PyProof.Rows

-- the defs of a program's text
def fnDef (p : Program) (n : String) : Option (Arguments × List Stmt × Scope) := p.main.body.findSome? fun st => match st with
  | .FunctionDef m a b _ _ _ sc _ _ _ => if m == Str.ofString n then some (a, b, sc) else none
  | _ => none
def fnBody (p : Program) (n : String) : List Stmt := match fnDef p n with | some (_, b, _) => b | none => []
def fnScope (p : Program) (n : String) : Scope := match fnDef p n with | some (_, _, sc) => sc | none => default
def fnArgs (p : Program) (n : String) : Arguments := match fnDef p n with | some (a, _, _) => a | none => default

def Cx.callee (C : Cx) (env env' : Env) (g : Heap) (L' : Addr) : Cx := { C with A := C.A.deeper env', A₀ := C.A, outer := env :: C.outer, h₀ := g, L := L' }
/-- what an exception meets that leaves a def -/
abbrev CE (C : Cx) (env' : Env) (E : Value → Shared → Prop) : Value → Shared → Prop := fun e s' => wpAny (model C.prog C.w) (C.A.deeper env') (leaving env' e) (fun _ s'' => E e s'') E s'
def AF.val : AF → AV
  | .ret v => v
  | _ => .none

theorem lk_mem {β : Type} {y : Str} {v : β} : ∀ {l : List (Str × β)}, l.lookup y = some v → (y, v) ∈ l
  | [], h => by simp at h
  | (a, b) :: r, h => by
    rw [List.lookup_cons] at h
    by_cases e : y = a
    · subst e; simp at h; subst h; exact .head _
    · simp only [beq_eq_false_iff_ne.mpr e] at h; exact .tail _ (lk_mem h)
theorem lk_nd {β : Type} {y : Str} {v : β} : ∀ {l : List (Str × β)}, (l.map (·.1)).Nodup → (y, v) ∈ l → l.lookup y = some v
  | (a, b) :: r, hn, h => by
    rw [List.map_cons, List.nodup_cons] at hn
    rw [List.lookup_cons]
    rcases List.mem_cons.mp h with e | h
    · cases e; simp
    · have : y ≠ a := fun e => hn.1 (e ▸ List.mem_map.mpr ⟨_, h, rfl⟩)
      simp only [beq_eq_false_iff_ne.mpr this]
      exact lk_nd hn.2 h
theorem zip_keys : ∀ (names : List Str) (vs : List Value), names.Nodup → ((names.zip vs).map (·.1)).Nodup
  | [], vs, _ => by simp
  | n :: r, [], _ => by simp
  | n :: r, v :: vs, hnd => by
    rw [List.zip_cons_cons, List.map_cons, List.nodup_cons]
    rw [List.nodup_cons] at hnd
    refine ⟨fun hm => ?_, zip_keys r vs hnd.2⟩
    obtain ⟨p, hp, e⟩ := List.mem_map.mp hm
    have e' : p.1 = n := e
    exact hnd.1 (e' ▸ (List.of_mem_zip hp).1)
theorem zip_mem : ∀ {names : List Str} {as : List AV} {vs : List Value}, RVs as vs → ∀ {x : Str} {a : AV}, (x, a) ∈ names.zip as → ∃ v, (x, v) ∈ names.zip vs ∧ RV a v
  | [], _, _, _, _, _, h => by simp at h
  | n :: r, _, _, .nil, _, _, h => by simp at h
  | n :: r, _, _, .cons h1 h2, x, a, h => by
    rw [List.zip_cons_cons] at h
    rcases List.mem_cons.mp h with e | h
    · cases e; exact ⟨_, .head _, h1⟩
    · obtain ⟨v, hv, rv⟩ := zip_mem h2 h
      exact ⟨v, .tail _ hv, rv⟩
theorem lookup_zip_rev {names : List Str} {as : List AV} {vs : List Value} (hn : names.Nodup) (h : RVs as vs) : LocOk (names.zip as) (fun y => (names.zip vs).reverse.lookup y) := by
  intro x a hx
  obtain ⟨v, hv, rv⟩ := zip_mem h (lk_mem hx)
  refine ⟨v, lk_nd ?_ (List.mem_reverse.mpr hv), rv⟩
  rw [List.map_reverse]
  exact (List.reverse_perm _).nodup_iff.mpr (zip_keys names vs hn)

section
variable {C : Cx} {E : Value → Shared → Prop} {ρ : Loc} {σ : Sto} {env : Env} {pos : Pos} {Q : AV → Loc → Sto → Prop} {n : Nat}

theorem Cx.Ok.callee {env env' : Env} {n : Nat} {g : Heap} {L' : Addr} {s : Shared} (O : C.Ok env (n + 1)) (B' : Below C.A C.base (env :: C.outer) g) (st : C.h₀.StaysIn g) (hf' : env'.frame = some L') (hk' : env'.scope.kind = .function) : (C.callee env env' g L').Ok env' n where
  B := B'
  X := O.X.keeps st
  T := O.T.keeps st
  hA := Around.frames_deeper O.hA
  hf := hf'
  hk := hk'
  hh := O.hh
  depth := by have := O.depth; show C.A.depth + 1 + n < recursionLimit; omega
  units := by have := O.units; show C.A.units + 3 + 10 * n < cLine; omega

theorem b_def {f : Addr} {name qual : Str} {params : Arguments} {body : List Stmt} {scope : Scope} {dV kV doc pm cdv ct oc : Value} {an od : Option Addr} {osl : Array (Option Value)} {as : List AV} {names : List Str}
    (O : C.Ok env (n + 1)) (ho : C.K.lookup f = some ⟨oc, od, .func (fnX name qual params body scope [] dV kV doc pm an cdv ct), osl⟩) (hcd : codeIn C.K cdv qual = true)
    (hb : ∀ vs : List Value, vs.length = as.length → bindArgs (fnX name qual params body scope [] dV kV doc pm an cdv ct) ⟨vs, []⟩ = Pure.pure (names.zip vs)) (hnd : names.Nodup) (hloc : ∀ y ∈ names, scope.names.lookup y = some .local)
    (hcell : ∀ x ∈ scope.names, x.2 ≠ .cell) (hco : scope.isCoroutine = false) (hgen : scope.isGenerator = false) (hk : scope.kind = .function)
    (h : ∀ g L', (C.callee env (envX qual scope L' f cdv []) g L').Ok (envX qual scope L' f cdv []) n → C.h₀.StaysIn g → AW RF (C.callee env (envX qual scope L' f cdv []) g L') (CE C (envX qual scope L' f cdv []) E) (execs body (envX qual scope L' f cdv [])) (fun fl _ σ' => Q fl.val ρ σ') (names.zip as) σ) :
    ACall C E (.ref f) as Q ρ σ := by
  intro vs hvs s hs
  obtain ⟨m, news, F, hl, N, hm⟩ := hs.frame
  refine wpAny_call ?_
  refine callX_plain (binds := names.zip vs) O.B F N O.T.nolimit O.hA O.hf O.hk ((O.X.keeps F.keep) _ _ ho) rfl (codeRec_of (O.X.keeps F.keep) hcd) (by have := O.depth; omega) (BindsTo.of_eq (hb vs hvs.length)) (fun y hy => hloc _ (List.of_mem_zip hy).1)
    (fun g L' h₁ FG F' N' B' st _ => ?_) hcell hco hgen hk
  have hs' : Rel (C.callee env (envX qual scope L' f cdv []) g L') (names.zip as) σ { s with heap := h₁, toks := s.toks + (names.zip vs).length } := by
    obtain ⟨⟨h'', tk, e⟩, _, _, nd⟩ := hs
    subst e
    refine ⟨⟨h₁, _, rfl⟩, ⟨_, F', lookup_zip_rev hnd hvs⟩, fun p hp => ?_, nd⟩
    obtain ⟨o, hn, r⟩ := hm p hp
    exact ⟨o, (N' _ hn).1, (N' _ hn).2.1, (N' _ hn).2.2, r⟩
  refine wpAny_mono (h g L' (O.callee (s := s) B' st rfl hk) st _ hs') (fun fl s' ⟨fl', ρ', σ', rf, hs₂, q⟩ => ?_) fun e s' x => ?_
  · obtain ⟨m', news', F₂, hl₂, N₂, hm₂⟩ := hs₂.frame
    refine leaveK_ F₂ N₂ fun F₃ N₃ => ?_
    have hr : Rel C ρ σ' s' := by
      obtain ⟨⟨h'', tk, e⟩, _, _, nd⟩ := hs₂
      refine ⟨⟨h'', tk, e⟩, ⟨m, F₃, hl⟩, fun p hp => ?_, nd⟩
      obtain ⟨o, hn, r⟩ := hm₂ p hp
      exact ⟨o, (N₃ _ hn).1, (N₃ _ hn).2.1, (N₃ _ hn).2.2, r⟩
    cases fl' with
    | next => cases rf; exact ⟨.none, ρ, σ', rfl, hr, q⟩
    | brk => cases rf; exact ⟨.none, ρ, σ', rfl, hr, q⟩
    | cont => cases rf; exact ⟨.none, ρ, σ', rfl, hr, q⟩
    | ret a => obtain ⟨v, rfl, rv⟩ := rf; exact ⟨a, ρ, σ', rv, hr, q⟩
  · exact x
end
end Mine
namespace Mine
open PySem PySem.W PySem.Spec PySem.Calls PyProof.Rows

/-- a comprehension's loop -/
def AComp (C : Cx) (elt target iter : Expr) (ifs : List Expr) (scope : Scope) (pos : Pos) (I D : Addr) (cenv : Env) (QC : Loc → Sto → Prop) (ρ : Loc) (σ : Sto) : Prop :=
  ∀ s (RR : Result → Shared → Prop), Rel C ρ σ s → (∀ ρ' σ' s', Rel C ρ' σ' s' → QC ρ' σ' → RR (.ok .next) s') → codeAny (model C.prog C.w) C.A (.compLoop (.ListComp elt [⟨target, iter, ifs, 0⟩] scope pos) 0 (.ref I) (.ref D) cenv) RR s
/-- a comprehension's tests -/
def ATests (C : Cx) (E : Value → Shared → Prop) (ifs : List Expr) (cenv : Env) (QB : Bool → Loc → Sto → Prop) (ρ : Loc) (σ : Sto) : Prop :=
  AW (Eq (α := Bool)) C E (forIn ifs true fun c r => if r = true then do let ok ← isTrue c cenv (eval c cenv); Pure.pure (ForInStep.yield ok) else Pure.pure (ForInStep.yield r)) QB ρ σ
def PFc (M : Model) (A : Around) (RR : Result → Shared → Prop) (c : Code) (n : Nat) (s' : Shared) : Fin → Shared → Prop := fun fin s'' => match fin with
  | .done f => RR (.ok f) s''
  | .again c' => (c' = c ∧ ∃ m, m < n ∧ s'' = s') ∨ (c'.quiet = true ∧ codeAny M A c' RR s'')
section
variable {C : Cx} {E : Value → Shared → Prop} {ρ : Loc} {σ : Sto} {env cenv : Env} {pos : Pos} {elt target iter : Expr} {ifs : List Expr} {scope : Scope} {I D : Addr} {QC : Loc → Sto → Prop} {QB : Bool → Loc → Sto → Prop}
theorem te_nil (h : QB true ρ σ) : ATests C E [] cenv QB ρ σ := fun _ hs => wpAny_tests_nil ⟨true, _, _, rfl, hs, h⟩
theorem te_one {c : Expr} (h : AW (Eq (α := Bool)) C E (isTrue c cenv (eval c cenv)) QB ρ σ) : ATests C E [c] cenv QB ρ σ := fun s hs => wpAny_tests_one (h s hs)
theorem AComp.subS {σ' : Sto} (h : AComp C elt target iter ifs scope pos I D cenv QC ρ σ') (hs : SubS σ' σ) : AComp C elt target iter ifs scope pos I D cenv QC ρ σ := fun s RR hr k => h s RR (hr.subS hs) k
/-- what an element's end asks -/
def CTurn (C : Cx) (elt target iter : Expr) (ifs : List Expr) (scope : Scope) (pos : Pos) (I D : Addr) (cenv : Env) (QC : Loc → Sto → Prop) : AV → Loc → Sto → Prop := fun y ρ₂ σ₂ =>
  ∃ acc σ₃, Pick (D, .list acc) σ₂ σ₃ ∧ acc.length ≤ sizeLine ∧ AComp C elt target iter ifs scope pos I D cenv QC ρ₂ ((D, .list (acc ++ [y])) :: σ₃)
theorem cp_item {σ' : Sto} {ao ao' : AO} {v : AV} (hσ : Pick (I, ao) σ σ') (nx : NxI C I ao σ' v ao')
    (h : ∀ E', AAs C E' cenv target I v (fun ρ₁ σ₁ => ATests C E' ifs cenv (fun ok ρ₂ σ₂ => if ok = true then AW RV C E' (eval elt cenv) (CTurn C elt target iter ifs scope pos I D cenv QC) ρ₂ σ₂ else AComp C elt target iter ifs scope pos I D cenv QC ρ₂ σ₂) ρ₁ σ₁) ρ ((I, ao') :: σ')) :
    AComp C elt target iter ifs scope pos I D cenv QC ρ σ := by
  intro s RR hs k
  have hs := hs.perm hσ
  refine codeAny_loop' rfl (fun _ s' => s' = s) (fun n s' e => ?_) 0 rfl
  subst e
  show wpAny _ C.A ((compTurn (.ListComp elt [⟨target, iter, ifs, 0⟩] scope pos) 0 (.ref I) (.ref D) cenv).onRaise (fun x => do noteFrame x cenv; theTreesLotGoes x)) _ _ s'
  refine wpAny_noted ?_
  rw [compTurn_list]
  refine wpAny_bind (wpAny_standAt (wpAny_bind (nx ρ s' _ _ hs fun vv s₁ rv hs₁ => ?_)))
  generalize notedBy _ _ _ _ = E'
  have h₁ := h E' vv rv s₁ hs₁
  have fin : ∀ s₅, codeAny (model C.prog C.w) C.A (.compLoop (.ListComp elt [⟨target, iter, ifs, 0⟩] scope pos) 0 (.ref I) (.ref D) cenv) RR s₅ →
      PFc (model C.prog C.w) C.A RR (.compLoop (.ListComp elt [⟨target, iter, ifs, 0⟩] scope pos) 0 (.ref I) (.ref D) cenv) n s' (Fin.again (.compLoop (.ListComp elt [⟨target, iter, ifs, 0⟩] scope pos) 0 (.ref I) (.ref D) cenv)) s₅ := fun s₅ x => .inr ⟨rfl, x⟩
  have h₂ := wpAny_bind (Q := PFc (model C.prog C.w) C.A RR (.compLoop (.ListComp elt [⟨target, iter, ifs, 0⟩] scope pos) 0 (.ref I) (.ref D) cenv) n s') (f := fun _ => do
        let mut ok := true
        for c in ifs do
          if ok then ok ← isTrue c cenv (eval c cenv)
        if ok then
          (do let _ ← call (.builtin "list.append") [.ref D, ← eval elt cenv])
        again (.compLoop (.ListComp elt [⟨target, iter, ifs, 0⟩] scope pos) 0 (.ref I) (.ref D) cenv)) (wpAny_mono h₁ (fun _ s₂ ⟨_, ρ₂, σ₂, _, hs₂, q⟩ => wpAny_bind (q.lift1 hs₂ fun ok ok' ρ₃ σ₃ s₃ e hs₃ h₃ => by
      subst e
      cases ok' with
      | false =>
        simp only [Bool.false_eq_true, if_false] at h₃
        exact wpAny_pure (fin _ (h₃ _ _ hs₃ k))
      | true =>
        simp only [if_true] at h₃
        refine wpAny_bind (wpAny_bind (h₃.lift1 hs₃ fun y a ρ₄ σ₄ s₄ ry hs₄ h₄ => ?_))
        obtain ⟨acc, σ₅, hp, hl, h₅⟩ := h₄
        refine wpAny_bind ((b_append (C := C) (E := E') (ρ := ρ₄) (Q := fun _ ρ' σ' => AComp C elt target iter ifs scope pos I D cenv QC ρ' σ') hp hl h₅ [.ref D, y] (.cons rfl (.one ry))).lift1 hs₄ fun _ _ ρ₆ σ₆ s₆ _ hs₆ h₆ => ?_)
        exact wpAny_pure (wpAny_pure (fin _ (h₆ _ _ hs₆ k))))) fun _ _ e => e)
  rw [bind_assoc] at h₂
  exact wpAny_mono h₂ (fun fin s' hf => by cases fin <;> exact hf) fun _ _ e => e
theorem cp_end {σ' : Sto} {ao : AO} (hσ : Pick (I, ao) σ σ') (nx : NxE C I ao σ') (h : QC ρ σ') : AComp C elt target iter ifs scope pos I D cenv QC ρ σ := by
  intro s RR hs k
  have hs := hs.perm hσ
  refine codeAny_loop' rfl (fun _ s' => s' = s) (fun n s' e => ?_) 0 rfl
  subst e
  show wpAny _ C.A ((compTurn (.ListComp elt [⟨target, iter, ifs, 0⟩] scope pos) 0 (.ref I) (.ref D) cenv).onRaise (fun x => do noteFrame x cenv; theTreesLotGoes x)) _ _ s'
  refine wpAny_noted ?_
  rw [compTurn_list]
  exact wpAny_bind (wpAny_standAt (wpAny_bind (nx ρ s' _ _ hs fun s₁ hs₁ => wpAny_pure (k _ _ _ hs₁ h))))
/-- behind the loop: the comprehension's own names go -/
def CDone (c D : Addr) (Q : AV → Loc → Sto → Prop) : Loc → Sto → Prop := fun ρ' σ' => ∃ ρ₂ σ'', Pick (c, .ns ρ₂) σ' σ'' ∧ Q (.ref D) ρ' σ''

theorem comp_start {QC' : Addr → Addr → Loc → Sto → Prop} {ao : AO} {cl : List (Str × Addr)} {s₂ : Shared} {RR : Value → Addr → Result → Shared → Prop} (hs : Rel C ρ σ s₂) (hI : (I, ao) ∈ σ) (nsf : NxS C I ao)
    (hcell : ∀ y ∈ scope.names, y.2 ≠ .cell) (hkind : scope.kind = .function)
    (h : ∀ D c, AComp C elt target iter ifs scope pos I D (compEnvC scope cl c env) (QC' D c) ρ ((c, .ns []) :: (D, .list []) :: σ))
    (hRR : ∀ D c ρ' σ' s', Rel C ρ' σ' s' → QC' D c ρ' σ' → RR (.ref D) c (.ok .next) s') :
    wpAny (model C.prog C.w) C.A (newList []) (fun acc s₃ => wpAny (model C.prog C.w) C.A (newFunctionEnv scope env.globals cl [] env.qual none .none (some env)) (fun cenv s₄ =>
      codeAny (model C.prog C.w) C.A (.compStart (.ListComp elt [⟨target, iter, ifs, 0⟩] scope pos) 0 (.ref I) acc { cenv with scope := relabel scope env }) (RR acc cenv.locals) s₄) E s₃) E s₂ := by
  refine wpAny_newObj_type (wpAny_newFunctionEnv hcell (by intro y hy; simp at hy) (fun h₁ hns₁ hsb₁ => ?_) hkind)
  dsimp only at hns₁ hsb₁ ⊢
  have hs₃ : Rel C ρ ((s₂.heap.objs.size, AO.list []) :: σ) { s₂ with heap := s₂.heap.push { cls := .type "list", dict := none, data := .seq ([] : List Value).toArray }, toks := s₂.toks } := hs.push (ao := .list []) ⟨[], 0, .nil, rfl⟩ rfl _
  generalize hH2 : s₂.heap.push { cls := .type "list", dict := none, data := .seq ([] : List Value).toArray } = H2 at hns₁ hsb₁ hs₃ ⊢
  have hs₄ := hs₃.push (o := { cls := .type "dict", data := .dict #[] }) (ao := .pred fun _ => True) trivial rfl s₂.toks
  obtain ⟨oC, eC, hoC⟩ := LCg.ns_obj hns₁
  have hs₅ : Rel C ρ ((H2.objs.size, AO.ns []) :: (s₂.heap.objs.size, .list []) :: σ) { s₂ with heap := h₁, toks := s₂.toks + ([] : List (Str × Value)).length } :=
    hs₄.updP hsb₁ eC (ao' := .ns []) ⟨_, hoC, fun x v e => by simp at e⟩ _
  have key := h s₂.heap.objs.size H2.objs.size _ (RR (.ref s₂.heap.objs.size) H2.objs.size) hs₅ (fun ρ' σ' s' hr hq => hRR _ _ _ _ _ hr hq)
  obtain ⟨oI, eI, _, _, rI⟩ := hs₅.led (I, ao) (.tail _ (.tail _ hI))
  exact codeAny_compStart_list key (nsf oI rI _ _ _ eI key)

theorem aw_ListComp {cl : List (Str × Addr)} {Q : AV → Loc → Sto → Prop} (hclos : closureFor scope env = Pure.pure cl) (hcell : ∀ y ∈ scope.names, y.2 ≠ .cell) (hkind : scope.kind = .function) (hnames : ∀ y ∈ scope.names, y.2 = .local → scope.names.lookup y.1 = some .local)
    (h : AW RV C E (eval iter env) (fun a ρ₁ σ₁ => AIt C E a (fun I ρ₂ σ₂ => ∃ ao, (I, ao) ∈ σ₂ ∧ NxS C I ao ∧ ∀ D c, AComp C elt target iter ifs scope pos I D (compEnvC scope cl c env) (CDone c D Q) ρ₂ ((c, .ns []) :: (D, .list []) :: σ₂)) ρ₁ σ₁) ρ σ)
    (hs : ∀ x, foldedSetIterable iter env x = Pure.pure x := by intro _; rfl) :
    AW RV C E (eval (.ListComp elt [⟨target, iter, ifs, 0⟩] scope pos) env) Q ρ σ := by
  intro s hs₀
  rw [eval_ListComp]
  refine wpAny_comprehension_free (use := none) rfl hs hclos hkind hnames (h.lift1 hs₀ fun v a _ _ s₁ rv hs₁ h₁ => wpAny_mono (h₁ v rv _ hs₁) (fun it s₂ ⟨I, ρ', σ', e, hs₂, ao, hI, nsf, h₂⟩ => ?_) fun _ _ e => e)
  subst e
  refine comp_start (RR := fun acc c => compPost (model C.prog C.w) C.A E none (fun a s' => ∃ b ρ' σ', RV b a ∧ Rel C ρ' σ' s' ∧ Q b ρ' σ') acc c) hs₂ hI nsf hcell hkind (QC' := fun D c => CDone c D Q) h₂ ?_
  rintro D c ρ₃ σ₃ s₃ hs₃ ⟨ρ₂, σ₄, hp, hq⟩
  have hs₃ := hs₃.perm hp
  obtain ⟨o, e, _, _, m, hn, _⟩ := hs₃.led (c, .ns ρ₂) (.head _)
  exact ⟨m, hn.ns e, fun h' hsb => ⟨.ref D, _, _, rfl, hs₃.extP hsb.extBut s₃.toks, hq⟩⟩
/-- x = [.. for ..]: the text stores ahead of letting the names go -/
theorem ex_assign_comp {cl : List (Str × Addr)} {y : Str} {py spos : Pos} {QF : AF → Loc → Sto → Prop} (hsw : swapsWith (.ListComp elt [⟨target, iter, ifs, 0⟩] scope pos) (some (.Name y py)) spos.line env = Pure.pure true)
    (hclos : closureFor scope env = Pure.pure cl) (hcell : ∀ y ∈ scope.names, y.2 ≠ .cell) (hkind : scope.kind = .function) (hnames : ∀ y ∈ scope.names, y.2 = .local → scope.names.lookup y.1 = some .local)
    (h : AW RV C E (eval iter env) (fun a ρ₁ σ₁ => AIt C E a (fun I ρ₂ σ₂ => ∃ ao, (I, ao) ∈ σ₂ ∧ NxS C I ao ∧ ∀ D c, AComp C elt target iter ifs scope pos I D (compEnvC scope cl c env)
      (fun ρ₃ σ₃ => ASt C E env y (.ref D) (fun ρ₄ σ₄ => ∃ ρ₅ σ₅, Pick (c, .ns ρ₅) σ₄ σ₅ ∧ QF .next ρ₄ σ₅) ρ₃ σ₃) ρ₂ ((c, .ns []) :: (D, .list []) :: σ₂)) ρ₁ σ₁) ρ σ)
    (hs : ∀ x, foldedSetIterable iter env x = Pure.pure x := by intro _; rfl) :
    AW RF C E (exec (.Assign [.Name y py] (.ListComp elt [⟨target, iter, ifs, 0⟩] scope pos) spos) env) QF ρ σ := by
  intro s hs₀
  rw [exec_Assign_Name_used _ _ _ _ hsw]
  refine wpAny_bind (wpAny_standAt (wpAny_bind ?_))
  show wpAny _ C.A (do let _ ← comprehension (.ListComp elt [⟨target, iter, ifs, 0⟩] scope pos) scope env _ (newList []) false (eval iter env) (some (assign (.Name y py) env))) _ _ s
  refine wpAny_bind (wpAny_mono (wpAny_comprehension_free (Q := fun _ s' => ∃ b ρ' σ', RF b .next ∧ Rel C ρ' σ' s' ∧ QF b ρ' σ') (use := some (assign (.Name y py) env)) rfl hs hclos hkind hnames (h.lift1 hs₀ fun v a _ _ s₁ rv hs₁ h₁ => wpAny_mono (h₁ v rv _ hs₁) (fun it s₂ ⟨I, ρ', σ', e, hs₂, ao, hI, nsf, h₂⟩ => ?_) fun _ _ e => e)) (fun _ s' hq => wpAny_pure (wpAny_pure hq)) fun _ _ e => e)
  subst e
  refine comp_start (RR := fun acc c => compPost (model C.prog C.w) C.A E (some (assign (.Name y py) env)) (fun _ s' => ∃ b ρ' σ', RF b .next ∧ Rel C ρ' σ' s' ∧ QF b ρ' σ') acc c) hs₂ hI nsf hcell hkind
    (QC' := fun D c ρ₃ σ₃ => ASt C E env y (.ref D) (fun ρ₄ σ₄ => ∃ ρ₅ σ₅, Pick (c, .ns ρ₅) σ₄ σ₅ ∧ QF .next ρ₄ σ₅) ρ₃ σ₃) h₂ ?_
  rintro D c ρ₃ σ₃ s₃ hs₃ hq
  show wpAny _ C.A (assign (.Name y py) env (.ref D)) _ _ _
  refine wpAny_assign_Name ((hq (.ref D) rfl).lift1 hs₃ fun _ _ ρ₄ σ₄ s₄ _ hs₄ ⟨ρ₅, σ₅, hp, hq'⟩ => ?_)
  have hs₄ := hs₄.perm hp
  obtain ⟨o, e, _, _, m, hn, _⟩ := hs₄.led (c, .ns ρ₅) (.head _)
  exact ⟨m, hn.ns e, fun h' hsb => ⟨.next, _, _, rfl, hs₄.extP hsb.extBut s₄.toks, hq'⟩⟩
end
end Mine
namespace Mine
open PySem PySem.W PySem.Spec PySem.Calls PyProof.Rows

/-- a text by its signs -/
def tx (l : List Nat) : Str := ⟨l.toArray⟩
@[simp] theorem tx_len (l : List Nat) : (tx l).length = l.length := by simp [tx, Str.length]
theorem tx_cps (l : List Nat) : (tx l).cps.toList = l := by simp [tx]
theorem tx_app (a b : List Nat) : tx a ++ tx b = tx (a ++ b) := by
  apply Str.ext'
  rw [Str.cps_append]
  simp [tx]
theorem tx_inj {a b : List Nat} : tx a = tx b ↔ a = b := by
  constructor
  · intro h; have := congrArg (fun x : Str => x.cps.toList) h; simpa [tx_cps] using this
  · intro h; rw [h]
theorem tx_beq (a b : List Nat) : (tx a == tx b) = decide (a = b) := by
  by_cases h : a = b
  · subst h; simp
  · have : tx a ≠ tx b := fun e => h (tx_inj.mp e)
    simp [h, this]
theorem tx_bne (a b : List Nat) : (tx a != tx b) = decide (a ≠ b) := by
  rw [bne, tx_beq]; simp
theorem tx_empty : Str.empty = tx [] := rfl
def cAt (i : Int) (n : Nat) : Nat := (max 0 (min (if i < 0 then i + n else i) n)).toNat
def cLo (a : Option Int) (n : Nat) : Nat := match a with | none => 0 | some i => cAt i n
def cHi (b : Option Int) (n : Nat) : Nat := match b with | none => n | some i => cAt i n
theorem cAt_le (i : Int) (n : Nat) : cAt i n ≤ n := by unfold cAt; omega
theorem filterMap_range (l : List Nat) (a k : Nat) (h : a + k ≤ l.length) : ((List.range k).map (a + ·)).filterMap (fun x => l.toArray[x]?) = (l.drop a).take k := by
  induction k with
  | zero => simp
  | succ k ih =>
    rw [List.range_succ, List.map_append, List.filterMap_append, ih (by omega)]
    have h1 : a + k < l.length := by omega
    rw [List.take_add_one]
    simp [h1]
theorem tx_slice (l : List Nat) (a b : Option Int) : Txt.slice (tx l) a b = tx ((l.drop (cLo a l.length)).take (cHi b l.length - cLo a l.length)) := by
  have hidx : Builtin.Str.strSliceIndices a b 1 (tx l).length = (List.range (cHi b l.length - cLo a l.length)).map (cLo a l.length + ·) := by
    rw [tx_len]
    rw [← sliceRange_one]
    have e1 : ∀ i : Int, (if (1 : Int) > 0 then max 0 (min (if i < 0 then i + (l.length : Int) else i) l.length) else max (-1) (min (if i < 0 then i + (l.length : Int) else i) (l.length - 1))) = (cAt i l.length : Int) := by
      intro i
      simp only [cAt, show (1 : Int) > 0 from by decide, if_true]; omega
    unfold Builtin.Str.strSliceIndices
    cases a <;> cases b <;> simp only [e1, cLo, cHi] <;> rfl
  have hle : cLo a l.length ≤ l.length := by cases a with | none => exact Nat.zero_le _ | some i => exact cAt_le i _
  have hle2 : cHi b l.length ≤ l.length := by cases b with | none => exact Nat.le_refl _ | some i => exact cAt_le i _
  unfold Txt.slice
  rw [hidx]
  split
  · rename_i hc
    simp at hc
    have : cLo a l.length = 0 := by omega
    have : cHi b l.length = l.length := by omega
    simp [*]
  · show tx _ = _
    congr 1
    show List.filterMap (fun x => l.toArray[x]?) _ = _
    by_cases h : cLo a l.length ≤ cHi b l.length
    · exact filterMap_range l _ _ (by omega)
    · have : cHi b l.length - cLo a l.length = 0 := by omega
      simp [this]
theorem tx_from (l : List Nat) {i : Int} (h : 0 ≤ i) : Txt.slice (tx l) (some i) none = tx (l.drop i.toNat) := by
  rw [tx_slice]
  simp only [cLo, cHi, cAt]
  congr 1
  by_cases hi : i ≤ l.length
  · have e : (max 0 (min (if i < 0 then i + (l.length : Int) else i) l.length)).toNat = i.toNat := by omega
    rw [e, List.take_of_length_le (by simp)]
  · have e : (max 0 (min (if i < 0 then i + (l.length : Int) else i) l.length)).toNat = l.length := by omega
    rw [e, List.drop_of_length_le (Nat.le_refl _), List.drop_of_length_le (by omega)]
    simp
theorem tx_to (l : List Nat) {i : Int} (h : 0 ≤ i) : Txt.slice (tx l) none (some i) = tx (l.take i.toNat) := by
  rw [tx_slice]
  simp only [cLo, cHi, cAt, List.drop_zero, Nat.sub_zero]
  congr 1
  by_cases hi : i ≤ l.length
  · have e : (max 0 (min (if i < 0 then i + (l.length : Int) else i) l.length)).toNat = i.toNat := by omega
    rw [e]
  · have e : (max 0 (min (if i < 0 then i + (l.length : Int) else i) l.length)).toNat = l.length := by omega
    rw [e, List.take_of_length_le (Nat.le_refl _), List.take_of_length_le (by omega)]
theorem tx_to_neg (l : List Nat) {i : Int} (h : i < 0) : Txt.slice (tx l) none (some i) = tx (l.take (l.length + i).toNat) := by
  rw [tx_slice]
  simp only [cLo, cHi, cAt, List.drop_zero, Nat.sub_zero]
  congr 2
  omega
theorem tx_from_neg (l : List Nat) {i : Int} (h : i < 0) : Txt.slice (tx l) (some i) none = tx (l.drop (l.length + i).toNat) := by
  rw [tx_slice]
  simp only [cLo, cHi, cAt]
  have e : (max 0 (min (if i < 0 then i + (l.length : Int) else i) l.length)).toNat = (l.length + i).toNat := by omega
  rw [e, List.take_of_length_le (by simp)]
theorem tx_between (l : List Nat) {i j : Int} (h : 0 ≤ i) (hj : 0 ≤ j) : Txt.slice (tx l) (some i) (some j) = tx ((l.take j.toNat).drop i.toNat) := by
  rw [tx_slice]
  simp only [cLo, cHi, cAt]
  congr 1
  rw [List.drop_take]
  by_cases h1 : i ≤ l.length
  · have e : (max 0 (min (if i < 0 then i + (l.length : Int) else i) l.length)).toNat = i.toNat := by omega
    rw [e]
    by_cases h2 : j ≤ l.length
    · have e2 : (max 0 (min (if j < 0 then j + (l.length : Int) else j) l.length)).toNat = j.toNat := by omega
      rw [e2]
    · have e2 : (max 0 (min (if j < 0 then j + (l.length : Int) else j) l.length)).toNat = l.length := by omega
      rw [e2, List.take_of_length_le (by simp), List.take_of_length_le (by simp; omega)]
  · have e : (max 0 (min (if i < 0 then i + (l.length : Int) else i) l.length)).toNat = l.length := by omega
    rw [e, List.drop_of_length_le (Nat.le_refl _), List.drop_of_length_le (by omega)]
    simp
theorem tx_starts (l p : List Nat) : Txt.startswith (tx l) (tx p) = decide (l.take p.length = p) := by
  unfold Txt.startswith
  rw [StrLaws.subAt_eq]
  simp only [tx_len, tx_cps, List.drop_zero, Nat.zero_add]
  by_cases h : l.take p.length = p
  · have : p.length ≤ l.length := by have := congrArg List.length h; simp at this; omega
    simp [h, this]
  · simp [h]
theorem tx_ends (l p : List Nat) : Txt.endswith (tx l) (tx p) = decide (p.length ≤ l.length ∧ l.drop (l.length - p.length) = p) := by
  unfold Txt.endswith
  rw [StrLaws.subAt_eq]
  simp only [tx_len, tx_cps, Nat.zero_add]
  by_cases h : p.length ≤ l.length
  · rw [List.take_of_length_le (by simp; omega)]
    simp only [h, decide_true, true_and, Bool.true_and]
    by_cases hh : l.drop (l.length - p.length) = p <;> simp [hh]
  · simp [h]
theorem tx_item (l : List Nat) {i : Int} (h0 : 0 ≤ i) (h1 : i < l.length) : Txt.item (tx l) i = tx [l.getD i.toNat 0] := by
  have : (tx l).cps[i.toNat]? = some (l.getD i.toNat 0) := by
    have : i.toNat < l.length := by omega
    simp [tx, this]
  rw [item_meets h0 this]; rfl
theorem tx_item_neg (l : List Nat) {i : Int} (h0 : i < 0) (h1 : -(l.length : Int) ≤ i) : Txt.item (tx l) i = tx [l.getD (l.length + i).toNat 0] := by
  have := item_closes_neg (x := tx l) h0 (by simpa using h1) (j := i + l.length) (by simp)
  rw [beq_iff_eq] at this
  rw [this]
  show (⟨#[_]⟩ : Str) = ⟨[_].toArray⟩
  simp [tx, Int.add_comm]
theorem fold_rep (l : List Nat) : ∀ (k : Nat) (a : Array Nat), (List.foldl (fun x1 x2 => x1 ++ x2) a (List.replicate k l.toArray)).toList = a.toList ++ (List.replicate k l).flatten
  | 0, a => by simp
  | k + 1, a => by
    rw [List.replicate_succ, List.foldl_cons, fold_rep l k]
    simp [List.replicate_succ]
theorem tx_mul (l : List Nat) (n : Int) : Txt.mul (tx l) n = tx (List.replicate n.toNat l).flatten := by
  unfold Txt.mul
  split
  · rename_i h
    have : n.toNat = 0 := by omega
    rw [this]; rfl
  · split
    · rename_i h1 h2
      simp at h2
      rcases h2 with h2 | h2
      · subst h2; simp
      · have : l = [] := by simpa using h2
        subst this
        congr 1
        simp
    · apply Str.ext'
      apply Array.ext'
      show (List.foldl _ #[] (List.replicate _ l.toArray)).toList = _
      rw [fold_rep]
      simp [tx]
theorem tx_mul1 (c : Nat) (n : Int) : Txt.mul (tx [c]) n = tx (List.replicate n.toNat c) := by
  rw [tx_mul]
  congr 1
  induction n.toNat with
  | zero => rfl
  | succ k ih => rw [List.replicate_succ, List.replicate_succ, List.flatten_cons, ih]; rfl
def joinL (sep : List Nat) : List (List Nat) → List Nat
  | [] => []
  | [x] => x
  | x :: rest => x ++ sep ++ joinL sep rest
theorem tx_join (sep : List Nat) (ls : List (List Nat)) : Txt.join (tx sep) (ls.map tx) = tx (joinL sep ls) := by
  show Builtin.Str.glued _ _ = _
  rw [StrLaws.glued_eq_join]
  induction ls with
  | nil => rfl
  | cons x r ih =>
    cases r with
    | nil => rfl
    | cons y r =>
      show tx x ++ tx sep ++ Str.join (tx sep) ((y :: r).map tx) = _
      rw [ih, tx_app, tx_app]; rfl
theorem joinL_nil (ls : List (List Nat)) : joinL [] ls = ls.flatten := by
  induction ls with
  | nil => rfl
  | cons x r ih =>
    cases r with
    | nil => simp [joinL]
    | cons y r => simp only [joinL, List.append_nil, List.flatten_cons] at ih ⊢; rw [ih]
theorem mulOk_tx {l : List Nat} {n : Int} (h : (l.length : Int) * n ≤ 1000000) (hl : l.length ≤ 1000000) (hn : n ≤ 1000000) (hn' : -1000000 ≤ n) : MulOk (tx l) n := by
  unfold MulOk
  simp only [tx_len]
  refine ⟨by simp; omega, fun h1 h2 => ?_, fun h1 h2 => ?_⟩
  · intro h3
    have hn1 : 1 ≤ n := by omega
    have : (2 ^ 63 - 1) / n * n ≤ 2 ^ 63 - 1 := Int.ediv_mul_le _ (by omega)
    have h4 : (1000000 : Int) < (2 ^ 63 - 1) / n := by
      refine Int.lt_of_lt_of_le (b := (2 ^ 63 - 1) / 1000000) (by decide) ?_
      rw [Int.le_ediv_iff_mul_le (by omega)]
      have : (2 ^ 63 - 1) / 1000000 * n ≤ (2 ^ 63 - 1) / 1000000 * 1000000 := Int.mul_le_mul_of_nonneg_left hn (by decide)
      omega
    omega
  · have e : ((l.length * n.toNat : Nat) : Int) ≤ 1000000 := by
      rw [Int.natCast_mul, Int.toNat_of_nonneg (by omega)]; exact h
    unfold Builtin.Str.tooLong
    rw [sizeLine_eq]
    simp
    omega
end Mine
namespace Mine
open PySem PySem.W PySem.Spec PySem.Calls PyProof.Rows
section
variable {C : Cx} {E : Value → Shared → Prop} {ρ : Loc} {σ : Sto} {pos : Pos} {x q : Str} {sc : Scope} {f : Addr} {cd : Value} {cl : List (Str × Addr)} {v : AV} {Q : AV → Loc → Sto → Prop} {n : Nat}
-- names in a def's frame
theorem xn_local (hk : sc.kind = .function) (hx : sc.names.lookup x = some .local) (hl : ρ.lookup x = some v) (h : Q v ρ σ) (hd : (x == ("__debug__" : Str)) = false) : AW RV C E (eval (.Name x pos) (envX q sc C.L f cd cl)) Q ρ σ :=
  aw_local hl h rfl hk hx hd
theorem xn_cell {c : Addr} (hk : sc.kind = .function) (hx : sc.names.lookup x = some .cell) (hc : cl.lookup x = some c) (hm : (c, AO.cell (some v)) ∈ σ) (h : Q v ρ σ) (hd : (x == ("__debug__" : Str)) = false) : AW RV C E (eval (.Name x pos) (envX q sc C.L f cd cl)) Q ρ σ :=
  aw_cell hc hm h hk hx hd
theorem xn_glob {v' : Value} (G : C.Gl) (hk : sc.kind = .function) (hx : sc.names.lookup x = some .globalImplicit) (e : nsIn C.K mainGlobals x = some (some v')) (r : RV v v') (h : Q v ρ σ) (hd : (x == ("__debug__" : Str)) = false) : AW RV C E (eval (.Name x pos) (envX q sc C.L f cd cl)) Q ρ σ :=
  aw_glob G e r h rfl hk hx hd
theorem xn_built {v' : Value} (G : C.Gl) (hk : sc.kind = .function) (hx : sc.names.lookup x = some .globalImplicit) (e : nsIn C.K mainGlobals x = some none) (hv : bootBuiltins x = some v') (r : RV v v') (h : Q v ρ σ) (hd : (x == ("__debug__" : Str)) = false) (hn : x ≠ "__name__") : AW RV C E (eval (.Name x pos) (envX q sc C.L f cd cl)) Q ρ σ :=
  aw_builtin G e hv r h hn rfl rfl hk hx hd
theorem xs_local {a : AV} {ρ' : Loc} {Q : Loc → Sto → Prop} (hk : sc.kind = .function) (hx : sc.names.lookup x = some .local) (hρ : rset ρ x a = ρ') (h : Q ρ' σ) : ASt C E (envX q sc C.L f cd cl) x a Q ρ σ :=
  st_local (hρ ▸ h) rfl hk hx
theorem xs_cell {a : AV} {c : Addr} {v₀ : Option AV} {pre post : Sto} {Q : Loc → Sto → Prop} (hk : sc.kind = .function) (hx : sc.names.lookup x = some .cell) (hc : cl.lookup x = some c) (hσ : σ = pre ++ (c, .cell v₀) :: post) (h : Q ρ (pre ++ (c, .cell (some a)) :: post)) : ASt C E (envX q sc C.L f cd cl) x a Q ρ σ :=
  st_cell hσ hc h hk hx
theorem lk_here {v : AV} {r : Loc} : List.lookup x ((x, v) :: r) = some v := by simp
theorem lk_there {y : Str} {v w : AV} {r : Loc} (h : (x == y) = false) (hl : r.lookup x = some v) : List.lookup x ((y, w) :: r) = some v := by rw [List.lookup_cons, h]; exact hl
theorem rs_here {a b : AV} {r : Loc} : rset ((x, b) :: r) x a = (x, a) :: r := by unfold rset; rw [if_pos rfl]
theorem rs_there {y : Str} {a b : AV} {r r' : Loc} (h : (x == y) = false) (hr : rset r x a = r') : rset ((y, b) :: r) x a = (y, b) :: r' := by rw [rset, if_neg (beq_eq_false_iff_ne.mp h), hr]
theorem rs_nil {a : AV} : rset [] x a = [(x, a)] := rfl
section
variable {env : Env}
theorem cw_fn {p : Pos} {f : Value} {e : Expr} {rest : List Expr} (h : AW RVs C E (spliced (backTo p (starEach (e :: rest) env))) (fun as ρ₁ σ₁ => Kp C f σ₁ ∧ ACall C E f as Q ρ₁ σ₁) ρ σ)
    (he : starEach (e :: rest) env = (false, eval e env) :: starEach rest env) (hplain : (backTo p (starEach rest env)).any (·.1) = false) :
    AW RV C E (callWith p f [] (backTo p (starEach (e :: rest) env)) []) Q ρ σ := cw_more (fa := []) .nil h he hplain
theorem cw_fn0 {p : Pos} {f : Value} (h : Kp C f σ ∧ ACall C E f [] Q ρ σ) : AW RV C E (callWith p f [] (backTo p (starEach [] env)) []) Q ρ σ := cw_none (fa := []) .nil h.1 h.2
theorem cw_me {p : Pos} {f v : Value} {a : AV} {e : Expr} {rest : List Expr} (rv : RV a v) (h : AW RVs C E (spliced (backTo p (starEach (e :: rest) env))) (fun as ρ₁ σ₁ => Kp C f σ₁ ∧ ACall C E f (a :: as) Q ρ₁ σ₁) ρ σ)
    (he : starEach (e :: rest) env = (false, eval e env) :: starEach rest env) (hplain : (backTo p (starEach rest env)).any (·.1) = false) :
    AW RV C E (callWith p f [v] (backTo p (starEach (e :: rest) env)) []) Q ρ σ := cw_more (fa := [a]) (.one rv) h he hplain
theorem cw_me0 {p : Pos} {f v : Value} {a : AV} (rv : RV a v) (h : Kp C f σ ∧ ACall C E f [a] Q ρ σ) : AW RV C E (callWith p f [v] (backTo p (starEach [] env)) []) Q ρ σ := cw_none (fa := [a]) (.one rv) h.1 h.2
end
/-- calling a builtin or a type by its value -/
theorem cv_val {w : Value} {P : Value → Prop} (h : P w) : ∀ fv, RV (.val w) fv → P fv := by rintro _ rfl; exact h
theorem cv_ref {a : Addr} {P : Value → Prop} (h : P (.ref a)) : ∀ fv, RV (.ref a) fv → P fv := by rintro _ rfl; exact h
theorem cf_one {a : AV} {P : List Value → Prop} (h : ∀ v, RV a v → P [v]) : ∀ first, RVs [a] first → P first := by
  intro first hf; obtain ⟨v, rfl, r⟩ := RVs.one' (as := []) hf; exact h v r
end
/-- a def of the text, as the top has left it -/
structure Fn (K : Frag) (p : Program) (n : String) (f : Addr) : Prop where
  glob : nsIn K mainGlobals (Str.ofString n) = some (some (.ref f))
  keep : keepIn K (.ref f) = true
  obj : ∃ oc od osl qual pm cdv, K.lookup f = some ⟨oc, od, .func (fnX (Str.ofString n) qual (fnArgs p n) (fnBody p n) (fnScope p n) [] .none .none .none pm none cdv .none), osl⟩ ∧ codeIn K cdv qual = true
/-- a name of the builtins that the text does not bind -/
def Bn (K : Frag) (ns : List String) : Prop := ∀ n ∈ ns, nsIn K mainGlobals (Str.ofString n) = some none
section
variable {C : Cx} {E : Value → Shared → Prop} {ρ : Loc} {σ : Sto} {env : Env} {Q : AV → Loc → Sto → Prop} {n : Nat}
theorem b_fn {p : Program} {nm : String} {f : Addr} {as : List AV} {names : List Str} (O : C.Ok env (n + 1)) (F : Fn C.K p nm f)
    (hb : ∀ qual pm cdv (vs : List Value), vs.length = as.length → bindArgs (fnX (Str.ofString nm) qual (fnArgs p nm) (fnBody p nm) (fnScope p nm) [] .none .none .none pm none cdv .none) ⟨vs, []⟩ = Pure.pure (names.zip vs)) (hnd : names.Nodup) (hloc : ∀ y ∈ names, (fnScope p nm).names.lookup y = some .local)
    (hcell : ∀ x ∈ (fnScope p nm).names, x.2 ≠ .cell) (hco : (fnScope p nm).isCoroutine = false) (hgen : (fnScope p nm).isGenerator = false) (hk : (fnScope p nm).kind = .function)
    (h : ∀ (C' : Cx) qual cdv E', C'.K = C.K → C'.prog = C.prog → C'.w = C.w → C'.s₀ = C.s₀ → C.h₀.StaysIn C'.h₀ → C'.Ok (envX qual (fnScope p nm) C'.L f cdv []) n → AW RF C' E' (execs (fnBody p nm) (envX qual (fnScope p nm) C'.L f cdv [])) (fun fl _ σ' => Q fl.val ρ σ') (names.zip as) σ) :
    ACall C E (.ref f) as Q ρ σ := by
  obtain ⟨oc, od, osl, qual, pm, cdv, ho, hcd⟩ := F.obj
  exact b_def O ho hcd (hb qual pm cdv) hnd hloc hcell hco hgen hk fun g L' Ok' st => h (C.callee env (envX qual (fnScope p nm) L' f cdv []) g L') qual cdv _ rfl rfl rfl rfl st Ok'
end
theorem ASt.perm {C : Cx} {E : Value → Shared → Prop} {ρ : Loc} {σ σ' : Sto} {env : Env} {x : Str} {a : AV} {Q : Loc → Sto → Prop} (h : ASt C E env x a Q ρ σ') (hp : σ.Perm σ') : ASt C E env x a Q ρ σ := fun v rv s hs => h v rv s (hs.perm hp)
section
variable {C : Cx} {E : Value → Shared → Prop} {ρ : Loc} {σ σ' : Sto} {x q : Str} {sc : Scope} {f : Addr} {cd : Value} {cl : List (Str × Addr)} {a : AV}
theorem xs_cellP {c : Addr} {v₀ : Option AV} {Q : Loc → Sto → Prop} (hk : sc.kind = .function) (hx : sc.names.lookup x = some .cell) (hc : cl.lookup x = some c) (hσ : Pick (c, .cell v₀) σ σ') (h : Q ρ ((c, .cell (some a)) :: σ')) : ASt C E (envX q sc C.L f cd cl) x a Q ρ σ :=
  ASt.perm (st_cell (pre := []) rfl hc h hk hx) hσ
/-- the names of a comprehension -/
theorem cs_local {env : Env} {scope : Scope} {c : Addr} {ρ₂ ρ₃ : Loc} {Q : Loc → Sto → Prop} (hk : scope.kind = .function) (hx : (relabel scope env).names.lookup x = some .local) (hσ : Pick (c, .ns ρ₂) σ σ') (hr : rset ρ₂ x a = ρ₃) (h : Q ρ ((c, .ns ρ₃) :: σ')) : ASt C E (compEnvC scope cl c env) x a Q ρ σ :=
  ASt.perm (st_ns (pre := []) rfl (hr ▸ h) rfl hk hx) hσ
theorem cn_local {env : Env} {scope : Scope} {c : Addr} {ρ₂ : Loc} {pos : Pos} {v : AV} {Q : AV → Loc → Sto → Prop} (hk : scope.kind = .function) (hx : (relabel scope env).names.lookup x = some .local) (hm : (c, AO.ns ρ₂) ∈ σ) (hl : ρ₂.lookup x = some v) (h : Q v ρ σ) (hd : (x == ("__debug__" : Str)) = false) : AW RV C E (eval (.Name x pos) (compEnvC scope cl c env)) Q ρ σ :=
  aw_ns hm hl h rfl hk hx hd
theorem cn_cell {env : Env} {scope : Scope} {c c' : Addr} {pos : Pos} {v : AV} {Q : AV → Loc → Sto → Prop} (hk : scope.kind = .function) (hx : (relabel scope env).names.lookup x = some .cell) (hc : cl.lookup x = some c') (hm : (c', AO.cell (some v)) ∈ σ) (h : Q v ρ σ) (hd : (x == ("__debug__" : Str)) = false) : AW RV C E (eval (.Name x pos) (compEnvC scope cl c env)) Q ρ σ :=
  aw_cell hc hm h hk hx hd
theorem cn_free {env : Env} {scope : Scope} {c c' : Addr} {pos : Pos} {v : AV} {Q : AV → Loc → Sto → Prop} (hk : scope.kind = .function) (hx : (relabel scope env).names.lookup x = some .free) (hc : cl.lookup x = some c') (hm : (c', AO.cell (some v)) ∈ σ) (h : Q v ρ σ) (hd : (x == ("__debug__" : Str)) = false) (hcd : (x == ("__classdict__" : Str)) = false) : AW RV C E (eval (.Name x pos) (compEnvC scope cl c env)) Q ρ σ :=
  aw_free hc hm h hk hx hd hcd
theorem cn_glob {env : Env} {scope : Scope} {c : Addr} {pos : Pos} {v : AV} {v' : Value} {Q : AV → Loc → Sto → Prop} (G : C.Gl) (hg : env.globals = mainGlobals) (hk : scope.kind = .function) (hx : (relabel scope env).names.lookup x = some .globalImplicit) (e : nsIn C.K mainGlobals x = some (some v')) (r : RV v v') (h : Q v ρ σ) (hd : (x == ("__debug__" : Str)) = false) : AW RV C E (eval (.Name x pos) (compEnvC scope cl c env)) Q ρ σ :=
  aw_glob G e r h hg hk hx hd
theorem cn_built {env : Env} {scope : Scope} {c : Addr} {pos : Pos} {v : AV} {v' : Value} {Q : AV → Loc → Sto → Prop} (G : C.Gl) (hg : env.globals = mainGlobals) (hb : env.builtins = builtinsNs) (hk : scope.kind = .function) (hx : (relabel scope env).names.lookup x = some .globalImplicit) (e : nsIn C.K mainGlobals x = some none) (hv : bootBuiltins x = some v') (r : RV v v') (h : Q v ρ σ) (hd : (x == ("__debug__" : Str)) = false) (hn : x ≠ "__name__") : AW RV C E (eval (.Name x pos) (compEnvC scope cl c env)) Q ρ σ :=
  aw_builtin G e hv r h hn hg hb hk hx hd
end
def LocSub (ρ' ρ : Loc) : Prop := ∀ p ∈ ρ', ρ.lookup p.1 = some p.2
theorem LocSub.nil {ρ : Loc} : LocSub [] ρ := fun _ h => nomatch h
theorem LocSub.cons {x : Str} {v : AV} {ρ' ρ : Loc} (h : ρ.lookup x = some v) (hr : LocSub ρ' ρ) : LocSub ((x, v) :: ρ') ρ := fun p hp => by
  rcases List.mem_cons.mp hp with e | hp
  · rw [e]; exact h
  · exact hr p hp
theorem LocSub.sub {ρ' ρ : Loc} (h : LocSub ρ' ρ) : ∀ x v, ρ'.lookup x = some v → ρ.lookup x = some v := fun x v e => h (x, v) (lk_mem e)
section
variable {C : Cx} {E : Value → Shared → Prop} {ρ ρ' : Loc} {σ σ' : Sto} {env : Env} {pos : Pos} {QF : AF → Loc → Sto → Prop} {Q : AV → Loc → Sto → Prop} {target test : Expr} {body : List Stmt} {I : Addr}
theorem AFor.to (h : AFor C E target I body env QF ρ' σ') (hs : SubS σ' σ) (hl : LocSub ρ' ρ) : AFor C E target I body env QF ρ σ := (h.subS hs).loc hl.sub
theorem AWhile.to (h : AWhile C E test body env QF ρ' σ') (hs : SubS σ' σ) (hl : LocSub ρ' ρ) : AWhile C E test body env QF ρ σ := (h.subS hs).loc hl.sub
theorem AW.to {α β : Type} {R : β → α → Prop} {t : Sem α} {Q : β → Loc → Sto → Prop} (h : AW R C E t Q ρ' σ') (hs : SubS σ' σ) (hl : LocSub ρ' ρ) : AW R C E t Q ρ σ := (h.subS hs).loc hl.sub
theorem ex_expr {e : Expr} (h : AW RV C E (eval e env) (fun v ρ₁ σ₁ => match v with | .none => QF .next ρ₁ σ₁ | _ => False) ρ σ) (hi : interactive env = false) (hsw : swapsWith e none pos.line env = Pure.pure false) : AW RF C E (exec (.Expr e pos) env) QF ρ σ :=
  fun _ hs => wpAny_Expr (h.lift1 hs fun v a _ _ _ rv hs₁ h₁ => by
    cases a with
    | none => cases rv; exact ⟨.next, _, _, rfl, hs₁, h₁⟩
    | _ => exact h₁.elim) hi hsw
theorem aw_strx {x : Str} {l : List Nat} {k : Nat} (e : x = tx l) (h : Q (.str (tx l)) ρ σ) : AW RV C E (eval (.Constant (.str x) k pos) env) Q ρ σ := aw_str (e ▸ h)
theorem str_tx (x : Str) : x = tx x.cps.toList := by simp [tx]
-- texts by their signs
theorem t_starts {l p : List Nat} (h : Q (.bool (decide (l.take p.length = p))) ρ σ) : ACall C E (.builtin "str.startswith") [.str (tx l), .str (tx p)] Q ρ σ := b_startswith (by rw [tx_starts]; exact h)
theorem t_ends {l p : List Nat} (h : Q (.bool (decide (p.length ≤ l.length ∧ l.drop (l.length - p.length) = p))) ρ σ) : ACall C E (.builtin "str.endswith") [.str (tx l), .str (tx p)] Q ρ σ := b_endswith (by rw [tx_ends]; exact h)
theorem t_len {l : List Nat} (hl : l.length ≤ sizeLine) (h : Q (.int l.length) ρ σ) : ACall C E (.builtin "len") [.str (tx l)] Q ρ σ := b_len_str (by simpa using hl) (by simpa using h)
theorem t_add {a b : List Nat} (hz : a.length + b.length ≤ sizeLine) (h : Q (.str (tx (a ++ b))) ρ σ) : Op2 C E .Add (.str (tx a)) (.str (tx b)) Q ρ σ := o_add_str (by simpa using hz) (by rw [tx_app]; exact h)
theorem t_mul1 {c : Nat} {n : Int} (h0 : -1000000 ≤ n) (h1 : n ≤ 1000000) (h : Q (.str (tx (List.replicate n.toNat c))) ρ σ) : Op2 C E .Mult (.str (tx [c])) (.int n) Q ρ σ :=
  o_mul_str (mulOk_tx (by simp; omega) (by simp) h1 h0) (by rw [tx_mul1]; exact h)
theorem t_eq {a b : List Nat} (h : Q (.bool (decide (a = b))) ρ σ) : Cmp2 C E .Eq (.str (tx a)) (.str (tx b)) Q ρ σ := c_eq_str (by rw [tx_beq]; exact h)
theorem t_ne {a b : List Nat} (h : Q (.bool (decide (a ≠ b))) ρ σ) : Cmp2 C E .NotEq (.str (tx a)) (.str (tx b)) Q ρ σ := c_ne_str (by rw [tx_bne]; exact h)
theorem t_item {value slice : Expr} {l : List Nat} {i : Int} (h0 : 0 ≤ i) (h1 : i < l.length) (hl : l.length ≤ sizeLine) (h : Q (.str (tx [l.getD i.toNat 0])) ρ σ)
    (hsl : ∀ t u, subscripted slice false (.str (tx l) t) (.int i u) = operate [.str (tx l) t, .int i u] (getItem (.str (tx l) t) (.int i u)))
    (ht : ∀ t r, letTemporaryGo value (.str (tx l) t) r = Pure.pure ()) : A2 C E (subscriptTail value slice) (.str (tx l)) (.int i) Q ρ σ :=
  s_item_str (by simp; omega) (by simpa using h1) (by simpa using hl) (by rw [tx_item l h0 h1]; exact h) hsl ht
section
variable {value slice : Expr} {l : List Nat} {i j : Int}
  (hl : l.length ≤ sizeLine) (hsl : ∀ t r, subscripted slice false (.str (tx l) t) (.ref r) = operate [.ref r, .str (tx l) t] (getItem (.str (tx l) t) (.ref r))) (ht : ∀ t r, letTemporaryGo value (.str (tx l) t) r = Pure.pure ())
include hl hsl ht
theorem t_from (h0 : 0 ≤ i) (h : Q (.str (tx (l.drop i.toNat))) ρ σ) : ASl C E value slice (.str (tx l)) (.int i) .none Q ρ σ := sl_str_sn (by simpa using hl) (by rw [tx_from l h0]; exact h) hsl ht
theorem t_to (h0 : 0 ≤ i) (h : Q (.str (tx (l.take i.toNat))) ρ σ) : ASl C E value slice (.str (tx l)) .none (.int i) Q ρ σ := sl_str_ns (by simpa using hl) (by rw [tx_to l h0]; exact h) hsl ht
theorem t_to_neg (h0 : i < 0) (h : Q (.str (tx (l.take (l.length + i).toNat))) ρ σ) : ASl C E value slice (.str (tx l)) .none (.int i) Q ρ σ := sl_str_ns (by simpa using hl) (by rw [tx_to_neg l h0]; exact h) hsl ht
theorem t_from_neg (h0 : i < 0) (h : Q (.str (tx (l.drop (l.length + i).toNat))) ρ σ) : ASl C E value slice (.str (tx l)) (.int i) .none Q ρ σ := sl_str_sn (by simpa using hl) (by rw [tx_from_neg l h0]; exact h) hsl ht
theorem t_between (h0 : 0 ≤ i) (h1 : 0 ≤ j) (h : Q (.str (tx ((l.take j.toNat).drop i.toNat))) ρ σ) : ASl C E value slice (.str (tx l)) (.int i) (.int j) Q ρ σ := sl_str_ss (by simpa using hl) (by rw [tx_between l h0 h1]; exact h) hsl ht
end
end
end Mine
namespace Mine
open PySem PySem.W PySem.Spec PySem.Calls PyProof.Rows
def pySl {α : Type} (xs : List α) (a b : Option Int) : List α := (xs.drop (cLo a xs.length)).take (cHi b xs.length - cLo a xs.length)
theorem slicePick_eq (vs : List Value) (a b : Option Int) : slicePick vs.toArray a b none = (pySl vs a b).toArray := by
  have e1 : ∀ i : Int, (if (1 : Int) > 0 then max 0 (min (if i < 0 then i + (vs.length : Int) else i) vs.length) else max (-1) (min (if i < 0 then i + (vs.length : Int) else i) (vs.length - 1))) = (cAt i vs.length : Int) := by
    intro i
    simp only [cAt, show (1 : Int) > 0 from by decide, if_true]; omega
  have hb : sliceBounds a b none vs.length = ((cLo a vs.length : Int), (cHi b vs.length : Int), 1) := by
    unfold sliceBounds
    simp only [Option.getD_none]
    cases a <;> cases b <;> simp only [e1, cLo, cHi] <;> rfl
  unfold slicePick
  rw [List.size_toArray, hb]
  show ((sliceRange (cLo a vs.length : Int) (cHi b vs.length : Int) 1).filterMap (vs.toArray[·]?)).toArray = _
  rw [sliceRange_one, pick_run]
  rfl
theorem RVs.pySl {as vs} (h : RVs as vs) (a b : Option Int) : RVs (pySl as a b) (pySl vs a b) := by
  unfold Mine.pySl
  rw [h.length]
  exact (h.drop _).take _
theorem pySl_length_le {α : Type} (xs : List α) (a b : Option Int) : (pySl xs a b).length ≤ xs.length := by
  unfold pySl
  simp
  omega
def optI : AV → Option (Option Int)
  | .none => some none
  | .int i => some (some i)
  | _ => none
theorem isPart_of {a : AV} {v : Value} {o : Option Int} (h : optI a = some o) (r : RV a v) : IsPart v o := by
  cases a with
  | none => cases h; cases r; exact .none
  | int i => cases h; obtain ⟨t, rfl⟩ := r; exact .int _ _
  | _ => cases h
section
variable {C : Cx} {E : Value → Shared → Prop} {ρ : Loc} {σ : Sto} {env : Env} {pos : Pos} {Q : AV → Loc → Sto → Prop} {value slice : Expr} {a : Addr} {xs : List AV}
theorem sl_listG {lo hi : AV} {l u : Option Int} (hv : ∀ s, Rel C ρ σ s → ∃ vs, RVs xs vs ∧ s.heap.IsList a vs.toArray) (hx : xs.length ≤ sizeLine) (hl : optI lo = some l) (hu : optI hi = some u) (h : ∀ r, Q (.ref r) ρ ((r, .list (pySl xs l u)) :: σ))
    (hsl : ∀ r, subscripted slice false (.ref a) (.ref r) = operate [.ref r, .ref a] (getItem (.ref a) (.ref r))) : ASl C E value slice (.ref a) lo hi Q ρ σ := by
  rintro _ vl vu s rfl rl ru hs
  have hs₁ := hs.push (o := { cls := .type "slice", data := .fields #[vl, vu, .none] }) (ao := .raw _) rfl rfl s.toks
  have hs₂ := hs₁.subS (SubS.drop (e := _) SubS.refl)
  obtain ⟨vs, rv, hl'⟩ := hv _ hs₂
  refine tail_any (T := "list") (Heap.IsList.typeIs hl') list_getitem_lookup (wpAny_getItem_list_slice hl' (Heap.IsSliceOf.new ..) (isPart_of hl rl) (isPart_of hu ru) .none (by simp) ?_ (by rw [List.size_toArray, rv.length]; exact hx)) (hsl _)
  refine ⟨.ref _, _, _, rfl, hs₂.push (ao := .list (pySl xs l u)) ⟨pySl vs l u, 0, rv.pySl l u, ?_⟩ rfl s.toks, h _⟩
  rw [slicePick_eq]
theorem sl_list {lo hi : AV} {l u : Option Int} (hm : (a, AO.list xs) ∈ σ) (hx : xs.length ≤ sizeLine) (hl : optI lo = some l) (hu : optI hi = some u) (h : ∀ r, Q (.ref r) ρ ((r, .list (pySl xs l u)) :: σ))
    (hsl : ∀ r, subscripted slice false (.ref a) (.ref r) = operate [.ref r, .ref a] (getItem (.ref a) (.ref r))) : ASl C E value slice (.ref a) lo hi Q ρ σ :=
  sl_listG (fun _ hs => hs.isList hm) hx hl hu h hsl
theorem sl_base {lo hi : AV} {l u : Option Int} (hm : BaseL C a xs) (hx : xs.length ≤ sizeLine) (hl : optI lo = some l) (hu : optI hi = some u) (h : ∀ r, Q (.ref r) ρ ((r, .list (pySl xs l u)) :: σ))
    (hsl : ∀ r, subscripted slice false (.ref a) (.ref r) = operate [.ref r, .ref a] (getItem (.ref a) (.ref r))) : ASl C E value slice (.ref a) lo hi Q ρ σ :=
  sl_listG (fun _ hs => hs.baseL hm) hx hl hu h hsl
theorem s_listG {i : Int} {v : AV} (hv : ∀ s, Rel C ρ σ s → ∃ vs, RVs xs vs ∧ s.heap.IsList a vs.toArray) (hx : xs.length ≤ sizeLine) (h0 : 0 ≤ i) (hi : xs[i.toNat]? = some v) (h : Q v ρ σ)
    (hsl : ∀ u, subscripted slice false (.ref a) (.int i u) = operate [.ref a, .int i u] (getItem (.ref a) (.int i u))) : A2 C E (subscriptTail value slice) (.ref a) (.int i) Q ρ σ := by
  rintro _ _ rfl ⟨u, rfl⟩ s hs
  obtain ⟨vs, rv, hl⟩ := hv s hs
  obtain ⟨w, e, r⟩ := rv.get hi
  have hlt : i.toNat < xs.length := by
    have := List.getElem?_eq_some_iff.mp hi
    exact this.1
  rw [sizeLine_eq] at hx
  exact tail_any (T := "list") hl.typeIs list_getitem_lookup (wpAny_getItem_list hl h0 (by omega) (by simpa using e) ⟨v, _, _, r, hs, h⟩) (hsl _)
theorem s_list {i : Int} {v : AV} (hm : (a, AO.list xs) ∈ σ) (hx : xs.length ≤ sizeLine) (h0 : 0 ≤ i) (hi : xs[i.toNat]? = some v) (h : Q v ρ σ)
    (hsl : ∀ u, subscripted slice false (.ref a) (.int i u) = operate [.ref a, .int i u] (getItem (.ref a) (.int i u))) : A2 C E (subscriptTail value slice) (.ref a) (.int i) Q ρ σ :=
  s_listG (fun _ hs => hs.isList hm) hx h0 hi h hsl
theorem s_base {i : Int} {v : AV} (hm : BaseL C a xs) (hx : xs.length ≤ sizeLine) (h0 : 0 ≤ i) (hi : xs[i.toNat]? = some v) (h : Q v ρ σ)
    (hsl : ∀ u, subscripted slice false (.ref a) (.int i u) = operate [.ref a, .int i u] (getItem (.ref a) (.int i u))) : A2 C E (subscriptTail value slice) (.ref a) (.int i) Q ρ σ :=
  s_listG (fun _ hs => hs.baseL hm) hx h0 hi h hsl
theorem s_list_neg {i : Int} {v : AV} (hm : (a, AO.list xs) ∈ σ) (hx : xs.length ≤ sizeLine) (h0 : i < 0) (h1 : -(xs.length : Int) ≤ i) (hi : xs[(i + xs.length).toNat]? = some v) (h : Q v ρ σ)
    (hsl : ∀ u, subscripted slice false (.ref a) (.int i u) = operate [.ref a, .int i u] (getItem (.ref a) (.int i u))) : A2 C E (subscriptTail value slice) (.ref a) (.int i) Q ρ σ := by
  rintro _ _ rfl ⟨u, rfl⟩ s hs
  obtain ⟨vs, rv, hl⟩ := hs.isList hm
  obtain ⟨w, e, r⟩ := rv.get hi
  rw [sizeLine_eq] at hx
  exact tail_any (T := "list") hl.typeIs list_getitem_lookup (wpAny_getItem_list_neg hl h0 (by simp [rv.length]; omega) (by omega) (by simpa [rv.length] using e) ⟨v, _, _, r, hs, h⟩) (hsl _)
theorem Rel.isTup {s : Shared} (hs : Rel C ρ σ s) (hm : (a, AO.tuple xs) ∈ σ) : ∃ vs, RVs xs vs ∧ IsTup s.heap a vs.toArray := by
  obtain ⟨o, e, _, _, vs, n, r, rfl⟩ := hs.led _ hm
  exact ⟨vs, r, _, e, rfl, n, rfl⟩
theorem s_tuple {i : Int} {v : AV} (hm : (a, AO.tuple xs) ∈ σ) (hx : xs.length ≤ sizeLine) (h0 : 0 ≤ i) (hi : xs[i.toNat]? = some v) (h : Q v ρ σ)
    (hsl : ∀ u, subscripted slice false (.ref a) (.int i u) = operate [.ref a, .int i u] (getItem (.ref a) (.int i u))) : A2 C E (subscriptTail value slice) (.ref a) (.int i) Q ρ σ := by
  rintro _ _ rfl ⟨u, rfl⟩ s hs
  obtain ⟨vs, rv, hl⟩ := hs.isTup hm
  obtain ⟨w, e, r⟩ := rv.get hi
  have hlt : i.toNat < xs.length := (List.getElem?_eq_some_iff.mp hi).1
  rw [sizeLine_eq] at hx
  refine tail_any (T := "tuple") hl.typeIs slot_tuple_getitem.lookup (getItem_tuple hl (by omega) (by omega) (j := i.toNat) ?_ (by simpa using e) ⟨v, _, _, r, hs, h⟩) (hsl _)
  unfold seqIndex?
  simp [rv.length]
  omega
end
end Mine
namespace Mine
open PySem PySem.W PySem.Spec PySem.Calls PyProof.Rows
theorem bb_len : bootBuiltins (Str.ofString "len") = some (.builtin "len") := by kernel_rfl
theorem bb_abs : bootBuiltins (Str.ofString "abs") = some (.builtin "abs") := by kernel_rfl
theorem bb_max : bootBuiltins (Str.ofString "max") = some (.builtin "max") := by kernel_rfl
theorem bb_min : bootBuiltins (Str.ofString "min") = some (.builtin "min") := by kernel_rfl
theorem bb_sum : bootBuiltins (Str.ofString "sum") = some (.builtin "sum") := by kernel_rfl
theorem bb_chr : bootBuiltins (Str.ofString "chr") = some (.builtin "chr") := by kernel_rfl
theorem bb_sorted : bootBuiltins (Str.ofString "sorted") = some (.builtin "sorted") := by kernel_rfl
theorem bb_divmod : bootBuiltins (Str.ofString "divmod") = some (.builtin "divmod") := by kernel_rfl
theorem bb_isinstance : bootBuiltins (Str.ofString "isinstance") = some (.builtin "isinstance") := by kernel_rfl
theorem bb_range : bootBuiltins (Str.ofString "range") = some (.type "range") := by kernel_rfl
theorem bb_str : bootBuiltins (Str.ofString "str") = some (.type "str") := by kernel_rfl
theorem bb_int : bootBuiltins (Str.ofString "int") = some (.type "int") := by kernel_rfl
theorem bb_bool : bootBuiltins (Str.ofString "bool") = some (.type "bool") := by kernel_rfl
end Mine
namespace Mine
open PySem PySem.W PySem.Spec PySem.Calls PyProof.Rows
theorem LocSub.refl {ρ : Loc} (hn : (ρ.map (·.1)).Nodup) : LocSub ρ ρ := fun p hp => lk_nd hn hp
/-- a smaller end -/
def Shr {β : Type} (Q : β → Loc → Sto → Prop) : β → Loc → Sto → Prop := fun b ρ' σ' => ∃ ρ'' σ'', SubS σ'' σ' ∧ LocSub ρ'' ρ' ∧ Q b ρ'' σ''
section
variable {C : Cx} {E : Value → Shared → Prop} {ρ : Loc} {σ : Sto} {env : Env} {pos : Pos} {QF : AF → Loc → Sto → Prop} {target test : Expr} {body : List Stmt} {I : Addr}
theorem AW.shrink {α β : Type} {R : β → α → Prop} {t : Sem α} {Q : β → Loc → Sto → Prop} (h : AW R C E t (Shr Q) ρ σ) : AW R C E t Q ρ σ :=
  fun s hs => wpAny_mono (h s hs) (fun a s' ⟨b, ρ', σ', r, x, ρ'', σ'', h1, h2, q⟩ => ⟨b, ρ'', σ'', r, (x.subS h1).loc h2.sub, q⟩) fun _ _ e => e
/-- a statement, by what holds behind it -/
theorem ex_seq {st : Stmt} {rest : List Stmt} (Mid : Loc → Sto → Prop) (h : AW RF C E (exec st env) (fun f ρ₁ σ₁ => match f with | .next => ∃ ρ₂ σ₂, Mid ρ₂ σ₂ ∧ SubS σ₂ σ₁ ∧ LocSub ρ₂ ρ₁ | _ => False) ρ σ)
    (k : ∀ ρ₂ σ₂, Mid ρ₂ σ₂ → AW RF C E (execs rest env) QF ρ₂ σ₂) : AW RF C E (execs (st :: rest) env) QF ρ σ := by
  refine ex_cons (h.mono fun f ρ₁ σ₁ hf => ?_)
  cases f with
  | next => obtain ⟨ρ₂, σ₂, hm, hs, hl⟩ := hf; exact (k ρ₂ σ₂ hm).to hs hl
  | _ => exact hf.elim
/-- a source of items -/
def Src (C : Cx) (a : Addr) (xs : List AV) (σ : Sto) : Prop := (a, AO.list xs) ∈ σ ∨ BaseL C a xs
theorem Src.nx {a : Addr} {xs : List AV} {i : Nat} {v : AV} (h : Src C a xs σ) (hv : xs[i]? = some v) : NxI C I (literO a i) σ v (literO a (i + 1)) := by
  rcases h with h | h
  · exact nx_list h hv
  · exact nx_base h hv
theorem Src.nxe {a : Addr} {xs : List AV} {i : Nat} (hh : C.A.handled = none) (h : Src C a xs σ) (hv : xs.length ≤ i) : NxE C I (literO a i) σ := by
  rcases h with h | h
  · exact nx_list_end hh h hv
  · exact nx_base_end hh h hv
/-- an iterator's states and items -/
structure Iter (C : Cx) (it : Nat → AO) (xs : List AV) (ok : Sto → Prop) : Prop where
  item : ∀ I σ i v, ok σ → xs[i]? = some v → NxI C I (it i) σ v (it (i + 1))
  fin : ∀ I σ, ok σ → NxE C I (it xs.length) σ
  self : ∀ I i, NxS C I (it i)
  more : ∀ σ e, ok σ → ok (e :: σ)
theorem iter_list {a : Addr} {xs : List AV} (hh : C.A.handled = none) : Iter C (literO a) xs (Src C a xs) where
  item := fun _ _ _ _ h hv => h.nx hv
  fin := fun _ _ h => h.nxe hh (Nat.le_refl _)
  self := fun _ _ => ns_list
  more := fun _ _ h => h.imp (.tail _) id
/-- the ints of a range -/
def rng (x : Int) (n : Nat) : List AV := (List.range n).map fun i => .int (x + (i : Nat))
theorem rng_length (x : Int) (n : Nat) : (rng x n).length = n := by simp [rng]
theorem iter_range {x : Int} {n : Nat} (hh : C.A.handled = none) : Iter C (fun i => riterO (x + (i : Nat)) ((n : Int) - (i : Nat))) (rng x n) (fun _ => True) where
  item := fun I σ i v _ hv => by
    have hlt : i < n := by have := (List.getElem?_eq_some_iff.mp hv).1; simpa [rng] using this
    have hv' : v = .int (x + (i : Nat)) := by simp [rng, hlt] at hv; exact hv.symm
    subst hv'
    have e1 : x + ((i + 1 : Nat) : Int) = x + (i : Nat) + 1 := by omega
    have e2 : (n : Int) - ((i + 1 : Nat) : Int) = (n : Int) - (i : Nat) - 1 := by omega
    show NxI C I (riterO (x + (i : Nat)) ((n : Int) - (i : Nat))) σ _ (riterO (x + ((i + 1 : Nat) : Int)) ((n : Int) - ((i + 1 : Nat) : Int)))
    rw [e1, e2]
    exact nx_range (by omega)
  fin := fun I σ _ => nx_range_end hh (by rw [rng_length]; omega)
  self := fun _ _ => ns_range
  more := fun _ _ h => h
theorem for_ind {it : Nat → AO} {ok : Sto → Prop} {xs : List AV} (W : Iter C it xs ok) (J : List AV → List AV → Loc → Sto → Prop)
    (src : ∀ d r ρ σ, J d r ρ σ → ok σ)
    (step : ∀ d v r ρ σ, xs = d ++ v :: r → J d (v :: r) ρ σ → AAs C (LE C env E) env target I v (fun ρ₁ σ₁ => AW RF C (LE C env E) (execs body env) (Turn QF (fun ρ₂ σ₂ => ∃ ρ₃ σ₃, J (d ++ [v]) r ρ₃ σ₃ ∧ SubS ((I, it (d.length + 1)) :: σ₃) σ₂ ∧ LocSub ρ₃ ρ₂)) ρ₁ σ₁) ρ ((I, it (d.length + 1)) :: σ))
    (fin : ∀ ρ σ, J xs [] ρ σ → QF .next ρ σ) (h0 : J [] xs ρ σ) : AFor C E target I body env QF ρ ((I, it 0) :: σ) := by
  have key : ∀ (r d : List AV) (ρ : Loc) (σ : Sto), xs = d ++ r → J d r ρ σ → AFor C E target I body env QF ρ ((I, it d.length) :: σ) := by
    intro r
    induction r with
    | nil =>
      intro d ρ σ e hJ
      rw [List.append_nil] at e
      subst e
      exact for_end Pick.head (W.fin _ _ (src _ _ _ _ hJ)) (fin _ _ hJ)
    | cons v r ih =>
      intro d ρ σ e hJ
      refine for_item Pick.head (W.item _ _ _ v (src _ _ _ _ hJ) (by rw [e]; simp)) ?_
      intro vv rv s hs
      refine wpAny_mono (step d v r ρ σ e hJ vv rv s hs) (fun _ s' ⟨u, ρ₁, σ₁, eu, hs₁, h₁⟩ => ⟨u, ρ₁, σ₁, eu, hs₁, h₁.mono fun f ρ₂ σ₂ ht => ?_⟩) fun _ _ e => e
      have go : (∃ ρ₃ σ₃, J (d ++ [v]) r ρ₃ σ₃ ∧ SubS ((I, it (d.length + 1)) :: σ₃) σ₂ ∧ LocSub ρ₃ ρ₂) → AFor C E target I body env QF ρ₂ σ₂ := by
        rintro ⟨ρ₃, σ₃, hJ', hs', hl'⟩
        have := ih (d ++ [v]) ρ₃ σ₃ (by rw [e]; simp) hJ'
        rw [List.length_append, List.length_singleton] at this
        exact AFor.to this hs' hl'
      cases f with
      | next => exact go ht
      | cont => exact go ht
      | brk => exact ht
      | ret w => exact ht
  exact key xs [] ρ σ rfl h0
theorem while_ind (J : Nat → Loc → Sto → Prop) (n : Nat)
    (step : ∀ n ρ σ, J n ρ σ → AW (Eq (α := Bool)) C (LE C env E) (isTrue test env (eval test env)) (fun b ρ₁ σ₁ => if b = true then AW RF C (LE C env E) (execs body env) (Turn QF (fun ρ₂ σ₂ => ∃ m ρ₃ σ₃, m < n ∧ J m ρ₃ σ₃ ∧ SubS σ₃ σ₂ ∧ LocSub ρ₃ ρ₂)) ρ₁ σ₁ else QF .next ρ₁ σ₁) ρ σ)
    (h0 : J n ρ σ) : AWhile C E test body env QF ρ σ := by
  induction n using Nat.strongRecOn generalizing ρ σ with
  | ind n ih =>
    refine wh_turn ((step n ρ σ h0).mono fun b ρ₁ σ₁ h₁ => ?_)
    cases b with
    | false => simpa using h₁
    | true =>
      simp only [if_true] at h₁ ⊢
      refine h₁.mono fun f ρ₂ σ₂ ht => ?_
      have go : (∃ m ρ₃ σ₃, m < n ∧ J m ρ₃ σ₃ ∧ SubS σ₃ σ₂ ∧ LocSub ρ₃ ρ₂) → AWhile C E test body env QF ρ₂ σ₂ := by
        rintro ⟨m, ρ₃, σ₃, hm, hJ', hs', hl'⟩
        exact AWhile.to (ih m hm hJ') hs' hl'
      cases f with
      | next => exact go ht
      | cont => exact go ht
      | brk => exact ht
      | ret w => exact ht
end
section
variable {C : Cx} {E : Value → Shared → Prop} {ρ : Loc} {σ : Sto} {env cenv : Env} {pos : Pos} {elt target iter : Expr} {ifs : List Expr} {scope : Scope} {I D c : Addr} {QC : Loc → Sto → Prop}
theorem Rel.nsNil {s : Shared} {e : Addr × AO} {ρ₂ : Loc} (h : Rel C ρ (e :: (c, .ns ρ₂) :: σ) s) : Rel C ρ (e :: (c, .ns []) :: σ) s := by
  refine ⟨h.shape, h.fr, fun p hp => ?_, by simpa using h.nd⟩
  rcases List.mem_cons.mp hp with rfl | hp
  · exact h.led _ (.head _)
  · rcases List.mem_cons.mp hp with rfl | hp
    · obtain ⟨o, h1, h2, h3, m, hn, _⟩ := h.led (c, .ns ρ₂) (.tail _ (.head _))
      exact ⟨o, h1, h2, h3, m, hn, fun x v e => by simp at e⟩
    · exact h.led _ (.tail _ (.tail _ hp))
/-- a turn of a comprehension: the element, or the next -/
def CStep (C : Cx) (elt target iter : Expr) (ifs : List Expr) (cenv : Env) (I : Addr) (v : AV) (yes : AV → Loc → Sto → Prop) (no : Loc → Sto → Prop) (ρ : Loc) (σ : Sto) : Prop :=
  ∀ E', AAs C E' cenv target I v (fun ρ₁ σ₁ => ATests C E' ifs cenv (fun ok ρ₂ σ₂ => if ok = true then AW RV C E' (eval elt cenv) yes ρ₂ σ₂ else no ρ₂ σ₂) ρ₁ σ₁) ρ σ
/-- items done, items to come, the list so far, the store beside iterator, list and names -/
theorem comp_ind {it : Nat → AO} {ok : Sto → Prop} {xs : List AV} (W : Iter C it xs ok) (J : List AV → List AV → List AV → Sto → Prop) (hx : xs.length ≤ sizeLine)
    (src : ∀ d r acc σ, J d r acc σ → ok σ) (hlen : ∀ d r acc σ, J d r acc σ → acc.length ≤ d.length)
    (step : ∀ d v r acc σ, xs = d ++ v :: r → J d (v :: r) acc σ → CStep C elt target iter ifs cenv I v
      (fun y ρ₁ σ₁ => ∃ ρ₃ σ₃, J (d ++ [v]) r (acc ++ [y]) σ₃ ∧ SubS ((D, .list acc) :: (c, .ns ρ₃) :: (I, it (d.length + 1)) :: σ₃) σ₁ ∧ LocSub ρ ρ₁)
      (fun ρ₁ σ₁ => ∃ ρ₃ σ₃, J (d ++ [v]) r acc σ₃ ∧ SubS ((D, .list acc) :: (c, .ns ρ₃) :: (I, it (d.length + 1)) :: σ₃) σ₁ ∧ LocSub ρ ρ₁) ρ ((I, it (d.length + 1)) :: (c, .ns []) :: (D, .list acc) :: σ))
    (fin : ∀ acc ρ₂ σ, J xs [] acc σ → QC ρ ((c, .ns ρ₂) :: (D, .list acc) :: σ)) (h0 : J [] xs [] σ) :
    AComp C elt target iter ifs scope pos I D cenv QC ρ ((c, .ns []) :: (D, .list []) :: (I, it 0) :: σ) := by
  have key : ∀ (r d acc : List AV) (ρ₂ : Loc) (σ : Sto), xs = d ++ r → J d r acc σ → AComp C elt target iter ifs scope pos I D cenv QC ρ ((I, it d.length) :: (c, .ns ρ₂) :: (D, .list acc) :: σ) := by
    intro r
    induction r with
    | nil =>
      intro d acc ρ₂ σ e hJ
      rw [List.append_nil] at e
      subst e
      exact cp_end Pick.head (W.fin _ _ (W.more _ _ (W.more _ _ (src _ _ _ _ hJ)))) (fin _ _ _ hJ)
    | cons v r ih =>
      intro d acc ρ₂ σ e hJ
      refine cp_item Pick.head (W.item _ _ _ v (W.more _ _ (W.more _ _ (src _ _ _ _ hJ))) (by rw [e]; simp)) fun E' vv rv s hs => ?_
      have hl := hlen _ _ _ _ hJ
      have hd : d.length ≤ sizeLine := by have := congrArg List.length e; simp at this; omega
      refine wpAny_mono (step d v r acc σ e hJ E' vv rv s hs.nsNil) (fun _ s' ⟨u, ρ₁, σ₁, eu, hs₁, h₁⟩ => ⟨u, ρ₁, σ₁, eu, hs₁, ?_⟩) fun _ _ e => e
      refine AW.mono h₁ fun ok ρ₄ σ₄ h₄ => ?_
      cases ok with
      | false =>
        simp only [Bool.false_eq_true, if_false] at h₄ ⊢
        obtain ⟨ρ₃, σ₃, hJ', hsub, hloc⟩ := h₄
        have := ih (d ++ [v]) acc ρ₃ σ₃ (by rw [e]; simp) hJ'
        rw [List.length_append, List.length_singleton] at this
        exact fun s RR hr k => this.subS (SubS.trans ⟨[], by rw [List.append_nil]; exact ((List.Perm.swap _ _ _).trans ((List.Perm.swap _ _ _).cons _)).trans ((List.Perm.swap _ _ _))⟩ hsub) s RR (hr.loc hloc.sub) k
      | true =>
        simp only [if_true] at h₄ ⊢
        refine AW.mono h₄ fun y ρ₅ σ₅ h₅ => ?_
        obtain ⟨ρ₃, σ₃, hJ', ⟨l, hperm⟩, hloc⟩ := h₅
        refine ⟨acc, (c, .ns ρ₃) :: (I, it (d.length + 1)) :: σ₃ ++ l, hperm, by omega, ?_⟩
        have := ih (d ++ [v]) (acc ++ [y]) ρ₃ σ₃ (by rw [e]; simp) hJ'
        rw [List.length_append, List.length_singleton] at this
        refine fun s RR hr k => this.subS ⟨l, ?_⟩ s RR (hr.loc hloc.sub) k
        have e2 : ((D, AO.list (acc ++ [y])) :: ((c, .ns ρ₃) :: (I, it (d.length + 1)) :: σ₃ ++ l)) = ((D, AO.list (acc ++ [y])) :: (c, .ns ρ₃) :: (I, it (d.length + 1)) :: (σ₃ ++ l)) := rfl
        rw [e2]
        exact ((List.Perm.swap _ _ _).trans ((List.Perm.swap _ _ _).cons _)).trans ((List.Perm.swap _ _ _))
  exact (key xs [] [] [] σ rfl h0).subS ⟨[], by rw [List.append_nil]; exact ((List.Perm.swap _ _ _).cons _).trans (List.Perm.swap _ _ _)⟩
end
end Mine
namespace Mine
open PySem PySem.W PySem.Spec PySem.Calls PyProof.Rows
section
variable {C : Cx} {E : Value → Shared → Prop} {ρ : Loc} {σ : Sto} {Q : AV → Loc → Sto → Prop}
theorem o_modP {a b : Int} (hb : 0 < b) (h : Q (.int (a % b)) ρ σ) : Op2 C E .Mod (.int a) (.int b) Q ρ σ :=
  o_mod_int (by omega) (by rw [Int.fmod_eq_emod_of_nonneg _ (by omega)]; exact h)
theorem o_divP {a b : Int} (hb : 0 < b) (hp : b.natAbs < 2 ^ 64) (h : Q (.int (a / b)) ρ σ) : Op2 C E .FloorDiv (.int a) (.int b) Q ρ σ :=
  o_div_int (by omega) (PyProof.noPylong_of_log2 (by
    have := (Nat.log2_lt (by omega) (k := 64)).mpr hp
    omega)) (by rw [Int.fdiv_eq_ediv_of_nonneg _ (by omega)]; exact h)
end
theorem mem_ints {ns : List Int} {d : List AV} {v : AV} {r : List AV} (h : ns.map AV.int = d ++ v :: r) : ∃ x, v = .int x := by
  have : v ∈ ns.map AV.int := by rw [h]; simp
  obtain ⟨x, _, e⟩ := List.mem_map.mp this
  exact ⟨x, e.symm⟩
section
variable {C : Cx} {E : Value → Shared → Prop} {ρ : Loc} {σ : Sto} {pos : Pos} {x q : Str} {sc : Scope} {f : Addr} {cd : Value} {cl : List (Str × Addr)} {Q : AV → Loc → Sto → Prop} {QF : AF → Loc → Sto → Prop} {env : Env}
theorem xn_globR {a : Addr} (G : C.Gl) (hk : sc.kind = .function) (hx : sc.names.lookup x = some .globalImplicit) (e : nsIn C.K mainGlobals x = some (some (.ref a))) (h : Q (.ref a) ρ σ) (hd : (x == ("__debug__" : Str)) = false) : AW RV C E (eval (.Name x pos) (envX q sc C.L f cd cl)) Q ρ σ :=
  xn_glob G hk hx e (v := .ref a) rfl h hd
theorem xn_builtV {v' : Value} (G : C.Gl) (hk : sc.kind = .function) (hx : sc.names.lookup x = some .globalImplicit) (e : nsIn C.K mainGlobals x = some none) (hv : bootBuiltins x = some v') (h : Q (.val v') ρ σ) (hd : (x == ("__debug__" : Str)) = false) (hn : x ≠ "__name__") : AW RV C E (eval (.Name x pos) (envX q sc C.L f cd cl)) Q ρ σ :=
  xn_built G hk hx e hv (v := .val v') rfl h hd hn
theorem cn_globR {scope : Scope} {c a : Addr} (G : C.Gl) (hg : env.globals = mainGlobals) (hk : scope.kind = .function) (hx : (relabel scope env).names.lookup x = some .globalImplicit) (e : nsIn C.K mainGlobals x = some (some (.ref a))) (h : Q (.ref a) ρ σ) (hd : (x == ("__debug__" : Str)) = false) : AW RV C E (eval (.Name x pos) (compEnvC scope cl c env)) Q ρ σ :=
  cn_glob G hg hk hx e (v := .ref a) rfl h hd
theorem cn_builtV {scope : Scope} {c : Addr} {v' : Value} (G : C.Gl) (hg : env.globals = mainGlobals) (hb : env.builtins = builtinsNs) (hk : scope.kind = .function) (hx : (relabel scope env).names.lookup x = some .globalImplicit) (e : nsIn C.K mainGlobals x = some none) (hv : bootBuiltins x = some v') (h : Q (.val v') ρ σ) (hd : (x == ("__debug__" : Str)) = false) (hn : x ≠ "__name__") : AW RV C E (eval (.Name x pos) (compEnvC scope cl c env)) Q ρ σ :=
  cn_built G hg hb hk hx e hv (v := .val v') rfl h hd hn
theorem ex_exprX {e : Expr} (hk : sc.kind = .function) (h : AW RV C E (eval e (envX q sc C.L f cd cl)) (fun v ρ₁ σ₁ => match v with | .none => QF .next ρ₁ σ₁ | _ => False) ρ σ) (hsw : swapsWith e none pos.line (envX q sc C.L f cd cl) = Pure.pure false) : AW RF C E (exec (.Expr e pos) (envX q sc C.L f cd cl)) QF ρ σ :=
  ex_expr h (by unfold interactive; rw [show (envX q sc C.L f cd cl).scope.kind = .function from hk]; rfl) hsw
end
theorem mem_ints' {ns : List Int} {d : List AV} {v : AV} {r : List AV} (h : ns.map AV.int = d ++ v :: r) : ∃ x, v = .int x ∧ x ∈ ns := by
  have : v ∈ ns.map AV.int := by rw [h]; simp
  obtain ⟨x, hx, e⟩ := List.mem_map.mp this
  exact ⟨x, e.symm, hx⟩
theorem RV_ref (a : Addr) : RV (.ref a) (.ref a) := rfl
theorem foldl_len (sep : Str) : ∀ (ls : List Str) (n : Nat), ls.foldl (fun x1 x2 => x1 + x2.length + sep.length) n = n + (ls.map Str.length).sum + ls.length * sep.length
  | [], n => by simp
  | x :: r, n => by rw [List.foldl_cons, foldl_len sep r]; simp only [List.map_cons, List.sum_cons, List.length_cons, Nat.succ_mul]; omega
theorem joinOk_tx {sep : List Nat} {ls : List (List Nat)} (h : (ls.map List.length).sum + ls.length * sep.length ≤ 1000000) : JoinOk (tx sep) (ls.map tx) = true := by
  unfold JoinOk Builtin.Str.tooLong
  rw [sizeLine_eq]
  have e : (ls.map tx).map Str.length = ls.map List.length := by rw [List.map_map]; exact List.map_congr_left fun l _ => tx_len l
  have := foldl_len (tx sep) (ls.map tx) 0
  rw [e] at this
  simp only [List.length_map, tx_len, Nat.zero_add] at this
  simp only [← Array.foldl_toList, this]
  simp
  omega
section
variable {C : Cx} {E : Value → Shared → Prop} {ρ : Loc} {σ : Sto} {Q : AV → Loc → Sto → Prop}
theorem t_join {sep : List Nat} {a : Addr} {ls : List (List Nat)} (hm : (a, AO.list (ls.map fun l => .str (tx l))) ∈ σ) (hz : (ls.map List.length).sum + ls.length * sep.length ≤ 1000000) (h : Q (.str (tx (joinL sep ls))) ρ σ) : ACall C E (.builtin "str.join") [.str (tx sep), .ref a] Q ρ σ :=
  b_join (xs := ls.map tx) (by simpa [List.map_map, Function.comp_def] using hm) (joinOk_tx hz) (by rw [tx_join]; exact h)
end
theorem pySl_to {α : Type} (xs : List α) {i : Int} (h : 0 ≤ i) : pySl xs none (some i) = xs.take i.toNat := by
  unfold pySl
  simp only [cLo, cHi, cAt, List.drop_zero, Nat.sub_zero]
  by_cases hi : i ≤ xs.length
  · have e : (max 0 (min (if i < 0 then i + (xs.length : Int) else i) xs.length)).toNat = i.toNat := by omega
    rw [e]
  · have e : (max 0 (min (if i < 0 then i + (xs.length : Int) else i) xs.length)).toNat = xs.length := by omega
    rw [e, List.take_of_length_le (Nat.le_refl _), List.take_of_length_le (by omega)]
theorem pySl_from {α : Type} (xs : List α) {i : Int} (h : 0 ≤ i) : pySl xs (some i) none = xs.drop i.toNat := by
  unfold pySl
  simp only [cLo, cHi, cAt]
  by_cases hi : i ≤ xs.length
  · have e : (max 0 (min (if i < 0 then i + (xs.length : Int) else i) xs.length)).toNat = i.toNat := by omega
    rw [e, List.take_of_length_le (by simp)]
  · have e : (max 0 (min (if i < 0 then i + (xs.length : Int) else i) xs.length)).toNat = xs.length := by omega
    rw [e, List.drop_of_length_le (Nat.le_refl _), List.drop_of_length_le (by omega)]
    simp
end Mine
namespace Mine
open PySem PySem.W PySem.Spec PySem.Calls PyProof.Rows
theorem rl_map (env : Env) (x : Str) : ∀ names : List (Str × NameKind), (names.map fun (n, k) => if (k == NameKind.free && env.scope.kind == .function && env.kindOf n == some .cell) then (n, NameKind.cell) else (n, k)).lookup x =
    (names.lookup x).map fun k => if (k == NameKind.free && env.scope.kind == .function && env.kindOf x == some .cell) then NameKind.cell else k
  | [] => rfl
  | (n, k) :: r => by
    have ih := rl_map env x r
    have key : ∀ b : Bool, ((if b = true then (n, NameKind.cell) else (n, k)) : Str × NameKind) = (n, if b = true then NameKind.cell else k) := by intro b; cases b <;> rfl
    rw [List.map_cons]
    show List.lookup x ((if (k == NameKind.free && env.scope.kind == .function && env.kindOf n == some .cell) = true then (n, NameKind.cell) else (n, k)) :: _) = _
    rw [key]
    by_cases e : x = n
    · subst e
      simp only [List.lookup_cons_self, Option.map_some]
    · have : (x == n) = false := beq_eq_false_iff_ne.mpr e
      simp only [List.lookup_cons, this]
      exact ih
theorem rl_cell {scope : Scope} {env : Env} {x : Str} (h : scope.names.lookup x = some .free) (hk : env.scope.kind = .function) (hx : env.kindOf x = some .cell) : (relabel scope env).names.lookup x = some .cell := by
  unfold relabel
  rw [rl_map, h, hk, hx]; rfl
theorem rl_free {scope : Scope} {env : Env} {x : Str} (h : scope.names.lookup x = some .free) (hx : env.kindOf x = some .free) : (relabel scope env).names.lookup x = some .free := by
  unfold relabel
  rw [rl_map, h, hx]
  simp
theorem rl_same {scope : Scope} {env : Env} {x : Str} {k : NameKind} (h : scope.names.lookup x = some k) (hk : k ≠ .free) : (relabel scope env).names.lookup x = some k := by
  unfold relabel
  rw [rl_map, h]
  simp
  exact fun e => absurd e hk
section
variable {C : Cx} {E : Value → Shared → Prop} {ρ : Loc} {σ σ' : Sto} {x q : Str} {sc scope : Scope} {f c c' : Addr} {cd : Value} {cl clf : List (Str × Addr)} {a v : AV} {pos : Pos} {Q : AV → Loc → Sto → Prop}
theorem kn_local {ρ₂ : Loc} {env : Env} (hk : scope.kind = .function) (hx : scope.names.lookup x = some .local) (hm : (c, AO.ns ρ₂) ∈ σ) (hl : ρ₂.lookup x = some v) (h : Q v ρ σ) (hd : (x == ("__debug__" : Str)) = false) : AW RV C E (eval (.Name x pos) (compEnvC scope cl c env)) Q ρ σ :=
  cn_local hk (rl_same hx (by decide)) hm hl h hd
theorem kn_cell (hk : scope.kind = .function) (hx : scope.names.lookup x = some .free) (hk' : sc.kind = .function) (hx' : sc.names.lookup x = some .cell) (hc : cl.lookup x = some c') (hm : (c', AO.cell (some v)) ∈ σ) (h : Q v ρ σ) (hd : (x == ("__debug__" : Str)) = false) : AW RV C E (eval (.Name x pos) (compEnvC scope cl c (envX q sc C.L f cd clf))) Q ρ σ :=
  cn_cell hk (rl_cell hx hk' hx') hc hm h hd
theorem kn_globR {env : Env} {a : Addr} (G : C.Gl) (hg : env.globals = mainGlobals) (hk : scope.kind = .function) (hx : scope.names.lookup x = some .globalImplicit) (e : nsIn C.K mainGlobals x = some (some (.ref a))) (h : Q (.ref a) ρ σ) (hd : (x == ("__debug__" : Str)) = false) : AW RV C E (eval (.Name x pos) (compEnvC scope cl c env)) Q ρ σ :=
  cn_globR G hg hk (rl_same hx (by decide)) e h hd
theorem kn_builtV {env : Env} {v' : Value} (G : C.Gl) (hg : env.globals = mainGlobals) (hb : env.builtins = builtinsNs) (hk : scope.kind = .function) (hx : scope.names.lookup x = some .globalImplicit) (e : nsIn C.K mainGlobals x = some none) (hv : bootBuiltins x = some v') (h : Q (.val v') ρ σ) (hd : (x == ("__debug__" : Str)) = false) (hn : x ≠ "__name__") : AW RV C E (eval (.Name x pos) (compEnvC scope cl c env)) Q ρ σ :=
  cn_builtV G hg hb hk (rl_same hx (by decide)) e hv h hd hn
theorem ks_local {env : Env} {ρ₂ ρ₃ : Loc} {Q : Loc → Sto → Prop} (hk : scope.kind = .function) (hx : scope.names.lookup x = some .local) (hσ : Pick (c, .ns ρ₂) σ σ') (hr : rset ρ₂ x a = ρ₃) (h : Q ρ ((c, .ns ρ₃) :: σ')) : ASt C E (compEnvC scope cl c env) x a Q ρ σ :=
  cs_local hk (rl_same hx (by decide)) hσ hr h
end
theorem ite_d {p : Prop} [Decidable p] {A B : Prop} (h1 : p → A) (h2 : ¬ p → B) : if decide p = true then A else B := by
  by_cases h : p
  · simp only [h, decide_true, if_true]; exact h1 h
  · simp only [h, decide_false, Bool.false_eq_true, if_false]; exact h2 h
theorem ite_nd {p : Prop} [Decidable p] {A B : Prop} (h1 : ¬ p → A) (h2 : p → B) : if (!decide p) = true then A else B := by
  by_cases h : p
  · simp only [h, decide_true, Bool.not_true, Bool.false_eq_true, if_false]; exact h2 h
  · simp only [h, decide_false, Bool.not_false, if_true]; exact h1 h
/-- the states of a range's iterator -/
abbrev rit (x : Int) (n : Nat) (i : Nat) : AO := riterO (x + (i : Nat)) ((n : Int) - (i : Nat))
theorem iter_rng {C : Cx} {x : Int} {n : Nat} (hh : C.A.handled = none) : Iter C (rit x n) (rng x n) (fun _ => True) := iter_range hh
theorem small_of {x y : Int} (h1 : -1000000000 ≤ x) (h2 : x ≤ 1000000000) (h3 : -1000000000 ≤ y) (h4 : y ≤ 1000000000) : Builtin.Range.small x y 1 = true := by
  unfold Builtin.Range.small Builtin.Range.rangeFitsLong
  rw [rangeSize_one]
  simp
  split <;> omega
theorem it_rng {C : Cx} {E : Value → Shared → Prop} {ρ : Loc} {σ : Sto} {a : Addr} {x y : Int} {n : Nat} {P : Addr → Loc → Sto → Prop} (hm : (a, rangeO x y) ∈ σ) (hn : (y - x).toNat = n) (h1 : -1000000000 ≤ x) (h2 : x ≤ 1000000000) (h3 : -1000000000 ≤ y) (h4 : y ≤ 1000000000) (h : ∀ I, P I ρ ((I, rit x n 0) :: σ)) : AIt C E (.ref a) P ρ σ :=
  it_range hm (small_of h1 h2 h3 h4) fun I => by
    have e : rit x n 0 = riterO x (if x < y then y - x else 0) := by
      show riterO (x + ((0 : Nat) : Int)) ((n : Int) - ((0 : Nat) : Int)) = _
      congr 1
      · omega
      · split <;> omega
    rw [← e]; exact h I
theorem rng_split {x : Int} {n : Nat} {d : List AV} {v : AV} {r : List AV} (h : rng x n = d ++ v :: r) : v = .int (x + (d.length : Nat)) ∧ d.length < n := by
  have hl := congrArg List.length h
  rw [rng_length] at hl
  simp at hl
  have h1 : (rng x n)[d.length]? = some v := by rw [h]; simp
  refine ⟨?_, by omega⟩
  have hlt : d.length < n := by omega
  simp [rng, hlt] at h1
  exact h1.symm
section
variable {C : Cx} {E : Value → Shared → Prop} {ρ : Loc} {σ : Sto} {Q : AV → Loc → Sto → Prop}
theorem b_maxM {a b : Int} (hh : C.A.handled = none) (h : Q (.int (max a b)) ρ σ) : ACall C E (.builtin "max") [.int a, .int b] Q ρ σ :=
  b_max hh (by have e : (if b > a then b else a) = max a b := by split <;> omega
               rw [e]; exact h)
theorem mulOk_l {a b : Int} (h : Builtin.Int.intBits a ≤ 64) : IntMulOk a b := by
  unfold IntMulOk
  have : decide (Builtin.Int.intBits a > shortFactorBits) = false := by simp [shortFactorBits]; exact h
  simp [this]
theorem mulOk_r {a b : Int} (h : Builtin.Int.intBits b ≤ 64) : IntMulOk a b := by
  unfold IntMulOk
  have : decide (Builtin.Int.intBits b > shortFactorBits) = false := by simp [shortFactorBits]; exact h
  simp [this]
theorem o_mulL {a b : Int} (hm : Builtin.Int.intBits a ≤ 64) (h : Q (.int (a * b)) ρ σ) : Op2 C E .Mult (.int a) (.int b) Q ρ σ := o_mul_int (mulOk_l hm) h
theorem o_mulR {a b : Int} (hm : Builtin.Int.intBits b ≤ 64) (h : Q (.int (a * b)) ρ σ) : Op2 C E .Mult (.int a) (.int b) Q ρ σ := o_mul_int (mulOk_r hm) h
end
end Mine
namespace Mine
open PySem PySem.W PySem.Spec PySem.Calls PyProof.Rows
theorem rvs_ints : ∀ {vs : List Value} {ns : List Int}, IntsAre vs ns → RVs (ns.map .int) vs
  | _, _, .nil => .nil
  | _, _, .cons _ t h => .cons ⟨t, rfl⟩ (rvs_ints h)
theorem law_wp {prog p : Program} {w : World} {s₁ : Shared} {h₁ : Heap} {tk₁ : Nat} {L f a : Addr} {q : Str} {sc : Scope} {cd : Value} {cl : List (Str × Addr)} {body : List Stmt} {m mg mb : Str → Option Value} {K : Frag} {loose : List Str} {mean : ExcName → Option Value} {Q : Flow → Shared → Prop} {E : Value → Shared → Prop} {vs : List Value} {ns : List Int} {cells : List (Addr × Obj)}
    (KX : K.In s₁.heap) (T : Top p loose mean mg mb s₁.heap) (B : Below callerA s₁.heap [] s₁.heap) (hL : s₁.heap.IsList a vs.toArray) (hI : IntsAre vs ns) (F : Fr s₁.heap L h₁ m) (hm : m (Str.ofString "script") = some (.ref a)) (N : News s₁.heap L h₁ cells)
    (σ : Addr → Sto) (hσ : ∀ p ∈ σ L, ∃ o, (p.1, o) ∈ cells ∧ RO p.2 o) (nd : ((σ L).map (·.1)).Nodup) (hk : sc.kind = .function)
    (law : ∀ C : Cx, C.K = K → C.L = L → C.Ok (envX q sc C.L f cd cl) 20 → BaseL C a (ns.map .int) → AW RF C E (execs body (envX q sc C.L f cd cl)) (fun fl _ _ => fl = .ret (.bool true)) [(Str.ofString "script", .ref a)] (σ C.L))
    (hQ : ∀ h tk m, Fr s₁.heap L h m → Q (.ret (.bool true)) { s₁ with heap := h, toks := tk }) :
    wpAny (model prog w) (callerA.deeper (envX q sc L f cd cl)) (execs body (envX q sc L f cd cl)) Q E { s₁ with heap := h₁, toks := tk₁ } := by
  let C : Cx := { prog := prog, w := w, A := callerA.deeper (envX q sc L f cd cl), A₀ := callerA, base := s₁.heap, outer := [], h₀ := s₁.heap, L := L, s₀ := s₁, K := K, p := p, loose := loose, mg := mg, mb := mb }
  have O : C.Ok (envX q sc C.L f cd cl) 20 := by
    refine ⟨B, KX, topRead_of T, Around.frames_deeper B.stack, rfl, hk, rfl, ?_, ?_⟩
    · show callerA.depth + 1 + 20 < recursionLimit
      decide
    · show callerA.units + 3 + 10 * 20 < cLine
      decide
  have hs : Rel C [(Str.ofString "script", .ref a)] (σ L) { s₁ with heap := h₁, toks := tk₁ } := by
    refine ⟨⟨h₁, tk₁, rfl⟩, ⟨m, F, fun x v e => ?_⟩, fun p hp => ?_, nd⟩
    · have := lk_mem e
      rw [List.mem_singleton] at this
      cases this
      exact ⟨_, hm, rfl⟩
    · obtain ⟨o, ho, r⟩ := hσ p hp
      exact ⟨o, (N _ ho).1, (N _ ho).2.1, (N _ ho).2.2, r⟩
  refine wpAny_mono (law C rfl rfl O ⟨vs, rvs_ints hI, hL⟩ _ hs) (fun fl s' ⟨fl', ρ', σ', rf, hr, e⟩ => ?_) fun _ _ e => e
  subst e
  obtain ⟨v, rfl, rv⟩ := rf
  cases rv
  obtain ⟨⟨h, tk, e⟩, ⟨m', F', _⟩, _, _⟩ := hr
  subst e
  exact hQ h tk m' F'
theorem law_wp' {prog p : Program} {w : World} {s₁ : Shared} {h₁ : Heap} {tk₁ : Nat} {L f a : Addr} {q : Str} {sc : Scope} {cd : Value} {cl : List (Str × Addr)} {body : List Stmt} {m mg mb : Str → Option Value} {K : Frag} {loose : List Str} {mean : ExcName → Option Value} {Q : Flow → Shared → Prop} {E : Value → Shared → Prop} {vs : List Value} {ns : List Int} {cells : List (Addr × Obj)}
    (pw : Program) (clf : Addr → List (Str × Addr)) (σ : Addr → Sto)
    (KX : K.In s₁.heap) (T : Top p loose mean mg mb s₁.heap) (B : Below callerA s₁.heap [] s₁.heap) (hL : s₁.heap.IsList a vs.toArray) (hI : IntsAre vs ns) (F : Fr s₁.heap L h₁ m) (N : News s₁.heap L h₁ cells)
    (hbody : body = fnBody pw "law") (hsc : sc = fnScope pw "law") (hcl : cl = clf L) (hm : m (Str.ofString "script") = some (.ref a))
    (hσ : ∀ p ∈ σ L, ∃ o, (p.1, o) ∈ cells ∧ RO p.2 o) (nd : ((σ L).map (·.1)).Nodup) (hk : (fnScope pw "law").kind = .function)
    (law : ∀ C : Cx, C.K = K → C.Ok (envX q (fnScope pw "law") C.L f cd (clf C.L)) 20 → BaseL C a (ns.map .int) → AW RF C E (execs (fnBody pw "law") (envX q (fnScope pw "law") C.L f cd (clf C.L))) (fun fl _ _ => fl = .ret (.bool true)) [(Str.ofString "script", .ref a)] (σ C.L))
    (hQ : ∀ h tk m, Fr s₁.heap L h m → Q (.ret (.bool true)) { s₁ with heap := h, toks := tk }) :
    wpAny (model prog w) (callerA.deeper (envX q sc L f cd cl)) (execs body (envX q sc L f cd cl)) Q E { s₁ with heap := h₁, toks := tk₁ } := by
  subst hbody hsc hcl
  refine law_wp KX T B hL hI F hm N σ hσ nd hk (fun C hK hCL O hb => ?_) hQ
  subst hCL
  exact law C hK O hb
def fdOf (K : Frag) (f : Addr) : FuncData := match K.lookup f with
  | some ⟨_, _, .func fd, _⟩ => fd
  | _ => default
def objOf (K : Frag) (f : Addr) : Obj := (K.lookup f).getD default
theorem fn_of {K : Frag} {p : Program} {n : String} {f : Addr} (h1 : nsIn K mainGlobals (Str.ofString n) = some (some (.ref f))) (h2 : keepIn K (.ref f) = true)
    (h3 : K.lookup f = some ⟨(objOf K f).cls, (objOf K f).dict, .func (fnX (Str.ofString n) (fdOf K f).qualname (fnArgs p n) (fnBody p n) (fnScope p n) [] .none .none .none (fdOf K f).pyModule none (fdOf K f).code .none), (objOf K f).slots⟩)
    (h4 : codeIn K (fdOf K f).code (fdOf K f).qualname = true) : Fn K p n f := ⟨h1, h2, _, _, _, _, _, _, h3, h4⟩
theorem bn_nil {K : Frag} : Bn K [] := fun _ h => nomatch h
theorem bn_cons {K : Frag} {n : String} {ns : List String} (h : nsIn K mainGlobals (Str.ofString n) = some none) (hr : Bn K ns) : Bn K (n :: ns) := fun m hm => by
  rcases List.mem_cons.mp hm with rfl | hm
  · exact h
  · exact hr m hm
end Mine
namespace Mine
def stripL (l : List Nat) : List Nat :=
  let l1 := if l.take 1 = [34] then l.drop 1 else l
  if 1 ≤ l1.length ∧ l1.drop (l1.length - 1) = [34] then l1.take (l1.length - 1) else l1
/-- a text of marks, a core, marks -/
def due01 (a b : Nat) (core : List Nat) (k : Nat) : List Nat :=
  if core = [] then List.replicate (a - 2 * k) 34 else List.replicate (a - k) 34 ++ core ++ List.replicate (b - k) 34
theorem drop_last_snoc (l : List Nat) (c : Nat) : (l ++ [c]).drop ((l ++ [c]).length - 1) = [c] := by simp
theorem take_last_snoc (l : List Nat) (c : Nat) : (l ++ [c]).take ((l ++ [c]).length - 1) = l := by simp
theorem take1_cons (c : Nat) (l : List Nat) : (c :: l).take 1 = [c] := by simp
/-- the back half -/
def stripB (l1 : List Nat) : List Nat := if 1 ≤ l1.length ∧ l1.drop (l1.length - 1) = [34] then l1.take (l1.length - 1) else l1
theorem stripB_snoc (l : List Nat) : stripB (l ++ [34]) = l := by
  unfold stripB
  rw [if_pos ⟨by simp, drop_last_snoc l 34⟩, take_last_snoc]
theorem stripB_other (l : List Nat) (c : Nat) (h : c ≠ 34) : stripB (l ++ [c]) = l ++ [c] := by
  unfold stripB
  rw [if_neg]
  rintro ⟨_, h2⟩
  rw [drop_last_snoc] at h2
  exact h (by simpa using h2)
theorem stripB_nil : stripB [] = [] := by unfold stripB; simp
theorem rep_snoc (n : Nat) : List.replicate (n + 1) 34 = List.replicate n 34 ++ [34] := by rw [List.replicate_succ']
theorem stripB_rep (n : Nat) : stripB (List.replicate n 34) = List.replicate (n - 1) 34 := by
  cases n with
  | zero => exact stripB_nil
  | succ n => rw [rep_snoc, stripB_snoc]; simp
theorem stripL_eq (l : List Nat) : stripL l = stripB (if l.take 1 = [34] then l.drop 1 else l) := rfl
theorem core_split (core : List Nat) (hc : core ≠ []) : ∃ i c, core = i ++ [c] := ⟨core.dropLast, core.getLast hc, (List.dropLast_concat_getLast hc).symm⟩
theorem stripB_core (front core : List Nat) (b : Nat) (hc : core ≠ []) (hl : core.getLast? ≠ some 34) : stripB (front ++ core ++ List.replicate b 34) = front ++ core ++ List.replicate (b - 1) 34 := by
  cases b with
  | zero =>
    obtain ⟨i, c, rfl⟩ := core_split core hc
    have : c ≠ 34 := fun e => hl (by rw [e]; simp)
    have e2 : front ++ (i ++ [c]) ++ List.replicate 0 34 = (front ++ i) ++ [c] := by simp
    rw [e2, stripB_other _ _ this]
  | succ b => rw [rep_snoc, ← List.append_assoc, stripB_snoc]; simp
theorem strip_due (a b : Nat) (core : List Nat) (k : Nat) (hf : core.head? ≠ some 34) (hl : core.getLast? ≠ some 34) (hb : core = [] → b = 0) : stripL (due01 a b core k) = due01 a b core (k + 1) := by
  unfold due01
  rw [stripL_eq]
  by_cases hc : core = []
  · rw [if_pos hc, if_pos hc]
    cases h : a - 2 * k with
    | zero =>
      have e : a - 2 * (k + 1) = 0 := by omega
      rw [e]
      simp [stripB_nil]
    | succ n =>
      rw [if_pos (by simp [List.replicate_succ])]
      have : (List.replicate (n + 1) 34).drop 1 = List.replicate n 34 := by simp
      rw [this, stripB_rep]
      congr 1
      omega
  · rw [if_neg hc, if_neg hc]
    cases h : a - k with
    | zero =>
      have e : a - (k + 1) = 0 := by omega
      rw [e]
      have : ¬ ((List.replicate 0 34 ++ core ++ List.replicate (b - k) 34).take 1 = [34]) := by
        cases core with
        | nil => exact absurd rfl hc
        | cons x r =>
          simp at hf ⊢
          exact hf
      rw [if_neg this, stripB_core _ _ _ hc hl]
      congr 2
    | succ n =>
      have e : a - (k + 1) = n := by omega
      rw [e]
      rw [if_pos (by simp [List.replicate_succ])]
      have : (List.replicate (n + 1) 34 ++ core ++ List.replicate (b - k) 34).drop 1 = List.replicate n 34 ++ core ++ List.replicate (b - k) 34 := by simp [List.replicate_succ]
      rw [this, stripB_core _ _ _ hc hl]
      congr 2
theorem due_len (a b : Nat) (core : List Nat) (k : Nat) : (due01 a b core k).length ≤ a + core.length + b := by
  unfold due01
  split
  · simp; omega
  · simp; omega
/-- the parts of a text -/
theorem parts01 (l : List Nat) (a b : Nat) (h1 : a ≤ l.length) (h2 : l.take a = List.replicate a 34) (h3 : a = l.length ∨ l.getD a 0 ≠ 34) (h4 : b ≤ l.length - a) (h5 : l.drop (l.length - b) = List.replicate b 34) (h6 : b = l.length - a ∨ l.getD (l.length - 1 - b) 0 ≠ 34) :
    l = due01 a b ((l.take (l.length - b)).drop a) 0 ∧ ((l.take (l.length - b)).drop a).head? ≠ some 34 ∧ ((l.take (l.length - b)).drop a).getLast? ≠ some 34 ∧ (((l.take (l.length - b)).drop a) = [] → b = 0) := by
  have hnil : (l.take (l.length - b)).drop a = [] ↔ b = l.length - a := by
    rw [← List.length_eq_zero_iff]
    simp
    omega
  by_cases he : b = l.length - a
  · -- no core: then all are marks, and b = 0
    have hb0 : b = 0 := by
      rcases Nat.eq_zero_or_pos b with h | h
      · exact h
      · exfalso
        have ha : a < l.length := by omega
        rcases h3 with h3 | h3
        · omega
        · apply h3
          have e : l.length - b = a := by omega
          rw [e] at h5
          have : (l.drop a)[0]? = (List.replicate b 34)[0]? := by rw [h5]
          rw [List.getElem?_drop] at this
          simp [h] at this
          simp [List.getD, this]
    have hcore := hnil.mpr he
    have ha : a = l.length := by omega
    refine ⟨?_, by rw [hcore]; simp, by rw [hcore]; simp, fun _ => hb0⟩
    unfold due01
    rw [if_pos hcore]
    rw [ha, List.take_length] at h2
    rw [ha]
    simpa using h2
  · have hne : ¬ ((l.take (l.length - b)).drop a = []) := fun e => he (hnil.mp e)
    refine ⟨?_, ?_, ?_, fun e => absurd e hne⟩
    · unfold due01
      rw [if_neg hne]
      simp only [Nat.sub_zero]
      have e1 : List.replicate a 34 ++ (l.take (l.length - b)).drop a = l.take (l.length - b) := by
        rw [← h2]
        have : l.take a = (l.take (l.length - b)).take a := by rw [List.take_take]; congr 1; omega
        rw [this, List.take_append_drop]
      rw [e1, ← h5, List.take_append_drop]
    · rw [List.head?_drop, List.getElem?_take]
      rcases h3 with h3 | h3
      · omega
      · rw [if_pos (by omega)]
        intro e
        apply h3
        simp [List.getD, e]
    · rcases h6 with h6 | h6
      · exact absurd h6 he
      · intro e
        apply h6
        rw [List.getLast?_eq_getElem?, List.getElem?_drop, List.getElem?_take] at e
        simp at e
        have e2 : a + (l.length - b - a - 1) = l.length - 1 - b := by omega
        rw [e2] at e
        simp [List.getD, e.2]
end Mine
namespace Mine
open PySem PySem.W PySem.Spec PySem.Calls PyProof.Rows
local macro_rules | `(tactic| walk_at "lk") => `(tactic| first | (with_reducible exact lk_here) | ((with_reducible refine' lk_there ?hne ?hrr); (case hne => decide); (case hrr => walk_at "lk")))
local macro_rules | `(tactic| walk_at "rs") => `(tactic| first | (with_reducible exact rs_here) | (with_reducible exact rs_nil) | ((with_reducible refine' rs_there ?hne ?hrr); (case hne => decide); (case hrr => walk_at "rs")))
local macro_rules | `(tactic| walk_at "kd") => `(tactic| with_reducible assumption)
local macro_rules | `(tactic| walk_at "kx") => `(tactic| first | with_reducible assumption | with_unfolding_all rfl)
local macro_rules | `(tactic| walk_at "ur") => `(tactic| with_unfolding_all rfl)
local macro_rules | `(tactic| walk_at "iur") => `(tactic| (intros; with_unfolding_all rfl))
local macro_rules | `(tactic| walk_at "pk") => `(tactic| first | with_reducible exact Pick.head | ((with_reducible refine' Pick.tail ?hrr); (case hrr => walk_at "pk")))
local macro_rules | `(tactic| walk_at "mm") => `(tactic| first | with_reducible assumption | with_reducible exact List.mem_cons_self | ((with_reducible refine' List.mem_cons_of_mem _ ?hrr); (case hrr => walk_at "mm")))
local macro_rules | `(tactic| walk_at "sb") => `(tactic| first | with_reducible exact SubS.refl | with_reducible assumption | with_reducible exact SubS.nil | ((with_reducible refine' SubS.pick ?hpk ?hrr); (case hpk => walk_at "pk"); (case hrr => walk_at "sb")) | (with_reducible refine SubS.drop ?_; walk_at "sb"))
local macro_rules | `(tactic| walk_at "ls") => `(tactic| first | with_reducible exact LocSub.nil | ((with_reducible refine' LocSub.cons ?hlc ?hrr); (case hlc => walk_at "lk"); (case hrr => walk_at "ls")))
local macro_rules | `(tactic| walk_at "sz") => `(tactic| first | assumption | omega | (simp only [List.length_append, List.length_cons, List.length_nil, List.length_map, List.length_take, List.length_drop, List.length_replicate]; omega) | (rw [sizeLine_eq]; first | omega | (simp only [List.length_append, List.length_cons, List.length_nil, List.length_map, List.length_take, List.length_drop, List.length_replicate]; omega)))
local macro_rules | `(tactic| walk_at "jz") => `(tactic| first | assumption | (simp only [List.length_cons, List.length_nil, Nat.mul_zero, Nat.add_zero, Nat.mul_one]; omega))
local macro_rules | `(tactic| walk_at "bb") => `(tactic| with_reducible first | exact bb_len | exact bb_range | exact bb_str | exact bb_int | exact bb_max | exact bb_abs | exact bb_min | exact bb_sum | exact bb_sorted | exact bb_chr | exact bb_divmod | exact bb_isinstance | exact bb_bool)
local macro_rules | `(tactic| walk_at "nm") => `(tactic| first
  | ((with_reducible refine' xn_local ?hk ?hx ?hl ?_ ?hd); (case hk => walk_at "kd"); (case hx => walk_at "kd"); (case hl => walk_at "lk"); (case hd => decide))
  | ((with_reducible refine' xn_cell ?hk ?hx ?hc ?hm ?_ ?hd); (case hk => walk_at "kd"); (case hx => walk_at "kd"); (case hc => exact rfl); (case hm => walk_at "mm"); (case hd => decide))
  | ((with_reducible refine' xn_globR ?G ?hk ?hx ?e ?_ ?hd); (case G => walk_at "kd"); (case hk => walk_at "kd"); (case hx => walk_at "kd"); (case e => walk_at "kd"); (case hd => decide))
  | ((with_reducible refine' xn_builtV ?G ?hk ?hx ?e ?hv ?_ ?hd ?hn); (case G => walk_at "kd"); (case hk => walk_at "kd"); (case hx => walk_at "kd"); (case e => walk_at "kd"); (case hv => walk_at "bb"); (case hd => decide); (case hn => decide))
  | ((with_reducible refine' kn_local ?hk ?hx ?hm ?hl ?_ ?hd); (case hk => exact rfl); (case hx => exact rfl); (case hm => walk_at "mm"); (case hl => walk_at "lk"); (case hd => decide))
  | ((with_reducible refine' kn_cell ?hk ?hx ?hk2 ?hx2 ?hc ?hm ?_ ?hd); (case hk => exact rfl); (case hx => exact rfl); (case hk2 => walk_at "kd"); (case hx2 => walk_at "kd"); (case hc => exact rfl); (case hm => walk_at "mm"); (case hd => decide))
  | ((with_reducible refine' kn_globR ?G ?hg ?hk ?hx ?e ?_ ?hd); (case G => walk_at "kd"); (case hg => exact rfl); (case hk => exact rfl); (case hx => exact rfl); (case e => walk_at "kd"); (case hd => decide))
  | ((with_reducible refine' kn_builtV ?G ?hg ?hb ?hk ?hx ?e ?hv ?_ ?hd ?hn); (case G => walk_at "kd"); (case hg => exact rfl); (case hb => exact rfl); (case hk => exact rfl); (case hx => exact rfl); (case e => walk_at "kd"); (case hv => walk_at "bb"); (case hd => decide); (case hn => decide)))
local macro_rules | `(tactic| walk_at "st") => `(tactic| first
  | ((with_reducible refine' xs_local ?hk ?hx ?hr ?_); (case hk => walk_at "kd"); (case hx => walk_at "kd"); (case hr => walk_at "rs"))
  | ((with_reducible refine' xs_cellP ?hk ?hx ?hc ?hp ?_); (case hk => walk_at "kd"); (case hx => walk_at "kd"); (case hc => exact rfl); (case hp => walk_at "pk"))
  | ((with_reducible refine' ks_local ?hk ?hx ?hp ?hr ?_); (case hk => exact rfl); (case hx => exact rfl); (case hp => walk_at "pk"); (case hr => walk_at "rs")))
local macro_rules | `(tactic| walk_at "stm") => `(tactic| first
  | ((fail_if_success (with_reducible show AW RF _ _ (execs (Stmt.While _ _ _ _ :: _) _) _ _ _)); (fail_if_success (with_reducible show AW RF _ _ (execs (Stmt.For _ _ _ _ _ :: _) _) _ _ _)); with_reducible refine ex_cons ?_)
  | with_reducible refine ex_nil ?_
  | ((with_reducible refine' ex_assign ?_ ?hsw); (case hsw => walk_at "ur"))
  | with_reducible refine ex_if ?_
  | with_reducible refine ex_return ?_
  | ((with_reducible refine' ex_exprX ?hk ?_ ?hsw); (case hk => walk_at "kd"); (case hsw => walk_at "ur"))
  | with_reducible refine ex_while ?_
  | ((with_reducible refine' ex_for ?_ ?hf); (case hf => walk_at "iur")))
local macro_rules | `(tactic| walk_at "tru") => `(tactic| first
  | with_reducible refine it_cmp ?_ rfl
  | with_reducible refine it_not ?_
  | with_reducible refine it_bool ?_
  | with_reducible refine at_and ?_
  | with_reducible refine at_or ?_
  | with_reducible refine at_nil ?_
  | ((with_reducible refine' it_plain ?_ ?hp); (case hp => walk_at "ur")))
local macro_rules | `(tactic| walk_at "evl") => `(tactic| first
  | walk_at "nm"
  | with_reducible refine aw_int ?_
  | with_reducible refine aw_strx (by with_reducible assumption) ?_
  | with_reducible refine aw_str ?_
  | with_reducible refine aw_BinOp ?_
  | ((with_reducible refine' aw_Method (pl := _) ?_ ?he); (case he => walk_at "ur"))
  | ((with_reducible refine' aw_Call ?_ ?he); (case he => walk_at "ur"))
  | with_reducible refine aw_SubSlice ?_
  | with_reducible refine aw_Subscript ?_
  | with_reducible refine aw_UnaryOp ?_
  | with_reducible refine aw_bool ?_
  | with_reducible refine aw_none ?_
  | with_reducible refine aw_List ?_
  | with_reducible refine aw_Tuple ?_
  | with_reducible refine aw_Compare ?_ rfl
  | ((with_reducible refine' aw_ListComp ?hclos ?hcell ?hkind ?hnames ?_ ?hfs); (case hclos => with_unfolding_all rfl); (case hcell => decide); (case hkind => with_unfolding_all rfl); (case hnames => decide); (case hfs => walk_at "iur"))
  | with_reducible refine aw_IfExp ?_)
local macro_rules | `(tactic| walk_at "cwt") => `(tactic| first
  | ((with_reducible refine' cw_me (by first | exact RV_ref _ | assumption) ?_ ?he ?hp); (case he => walk_at "ur"); (case hp => walk_at "ur"))
  | ((with_reducible refine' cw_fn ?_ ?he ?hp); (case he => walk_at "ur"); (case hp => walk_at "ur"))
  | with_reducible refine cw_me0 (by first | exact RV_ref _ | assumption) ?_
  | with_reducible refine cw_fn0 ?_)
local macro_rules | `(tactic| walk_at "mth") => `(tactic| first
  | with_reducible refine m_startswith ?_
  | with_reducible refine m_endswith ?_
  | with_reducible refine m_join ?_
  | ((with_reducible refine' m_append ?hm ?_); (case hm => walk_at "mm")))
local macro_rules | `(tactic| walk_at "cal") => `(tactic| first
  | with_reducible refine t_starts ?_
  | with_reducible refine t_ends ?_
  | ((with_reducible refine' t_len ?hz ?_); (case hz => walk_at "sz"))
  | ((with_reducible refine' b_len_list ?hm ?hz ?_); (case hm => walk_at "mm"); (case hz => walk_at "sz"))
  | ((with_reducible refine' b_append ?hp ?hz ?_); (case hp => walk_at "pk"); (case hz => walk_at "sz"))
  | ((with_reducible refine' t_join ?hm ?hz ?_); (case hm => walk_at "mm"); (case hz => walk_at "jz"))
  | with_reducible refine b_range1 ?_
  | with_reducible refine b_range2 ?_
  | ((with_reducible refine' b_maxM ?hh ?_); (case hh => walk_at "kd"))
  | with_reducible refine b_abs ?_)
local macro_rules | `(tactic| walk_at "bin") => `(tactic| first
  | with_reducible refine o_add_int ?_
  | with_reducible refine o_sub_int ?_
  | with_reducible refine c_lt_int ?_
  | with_reducible refine c_ge_int ?_
  | with_reducible refine t_eq ?_
  | with_reducible refine t_ne ?_
  | with_reducible refine c_eq_int ?_
  | with_reducible refine c_gt_int ?_
  | with_reducible refine c_ne_int ?_
  | ((with_reducible refine' o_add_list ?ha ?hb ?hz ?_); (case ha => walk_at "mm"); (case hb => walk_at "mm"); (case hz => walk_at "sz"))
  | ((with_reducible refine' t_add ?hz ?_); (case hz => walk_at "sz"))
  | ((with_reducible refine' o_modP ?hb ?_); (case hb => first | decide | omega))
  | ((with_reducible refine' o_divP ?hb ?hp ?_); (case hb => first | decide | omega); (case hp => decide))
  | ((with_reducible refine' o_mulL ?hm ?_); (case hm => decide))
  | ((with_reducible refine' o_mulR ?hm ?_); (case hm => decide))
  | ((with_reducible refine' t_mul1 ?h0 ?h1 ?_); (case h0 => omega); (case h1 => omega))
  | ((with_reducible refine' o_pow_int ?h0 ?h1 ?h2 ?_); (case h0 => decide); (case h1 => decide); (case h2 => decide)))
local macro_rules | `(tactic| walk_at "slc") => `(tactic| first
  | ((with_reducible refine' t_from ?hz ?hsl ?ht ?h0 ?_); (case hsl => walk_at "iur"); (case ht => walk_at "iur"); (case hz => walk_at "sz"); (case h0 => omega))
  | ((with_reducible refine' t_to ?hz ?hsl ?ht ?h0 ?_); (case hsl => walk_at "iur"); (case ht => walk_at "iur"); (case hz => walk_at "sz"); (case h0 => omega))
  | ((with_reducible refine' t_to_neg ?hz ?hsl ?ht ?h0 ?_); (case hsl => walk_at "iur"); (case ht => walk_at "iur"); (case hz => walk_at "sz"); (case h0 => omega))
  | ((with_reducible refine' t_between ?hz ?hsl ?ht ?h0 ?h1 ?_); (case hsl => walk_at "iur"); (case ht => walk_at "iur"); (case hz => walk_at "sz"); (case h0 => omega); (case h1 => omega))
  | ((with_reducible refine' sl_list ?hm ?hx ?hl ?hu ?_ ?hsl); (case hsl => walk_at "iur"); (case hm => walk_at "mm"); (case hx => walk_at "sz"); (case hl => exact rfl); (case hu => exact rfl)))
local macro_rules | `(tactic| walk_at "itm") => `(tactic| first
  | ((with_reducible refine' t_item ?h0 ?h1 ?hz ?_ ?hsl ?ht); (case hsl => walk_at "iur"); (case ht => walk_at "iur"); (case hz => walk_at "sz"); (case h0 => omega); (case h1 => omega)))
local macro_rules | `(tactic| walk_at "aw") => `(tactic| first
  | ((with_reducible show AW RV _ _ (eval _ _) _ _ _); walk_at "evl")
  | ((with_reducible show AW RF _ _ _ _ _ _); walk_at "stm")
  | ((with_reducible show AW Eq _ _ _ _ _ _); walk_at "tru")
  | ((with_reducible show AW RVs _ _ _ _ _ _); first | with_reducible refine sp_cons ?_ rfl | with_reducible refine sp_nil ?_)
  | ((with_reducible show AW RV _ _ (callWith _ _ _ _ _) _ _ _); walk_at "cwt")
  | ((with_reducible show AW RV _ _ (evalPart _ _) _ _ _); first | with_reducible refine ep_none ?_ | with_reducible refine ep_some ?_)
  | ((with_reducible show ASt _ _ _ _ _ _ _ _); walk_at "st")
  | ((with_reducible show A2 _ _ (binaryOp _) _ _ _ _ _); walk_at "bin")
  | ((with_reducible show A2 _ _ (compareOp _) _ _ _ _ _); walk_at "bin")
  | ((with_reducible show A2 _ _ (subscriptTail _ _) _ _ _ _ _); walk_at "itm")
  | ((with_reducible show ACall _ _ _ _ _ _ _); walk_at "cal")
  | ((with_reducible show AMeth _ _ _ _ _ _ _ _); walk_at "mth")
  | ((with_reducible show ATr _ _ _ _ _ _); first | with_reducible refine tr_bool ?_)
  | ((with_reducible show A1 _ _ _ _ _ _ _); first | with_reducible refine u_neg_int ?_)
  | ((with_reducible show ASl _ _ _ _ _ _ _ _ _ _); walk_at "slc")
  | ((with_reducible show Kp _ _ _ ∧ _); first | with_reducible refine ⟨kp_builtin, ?_⟩ | with_reducible refine ⟨kp_type, ?_⟩ | with_reducible refine ⟨kp_K (by assumption) (by assumption), ?_⟩)
  | ((with_reducible show ite _ _ _); first | refine ite_pos (by decide) ?_ | refine ite_neg (by decide) ?_ | refine ite_d (fun _ => ?_) (fun _ => ?_) | refine ite_nd (fun _ => ?_) (fun _ => ?_) | split)
  | with_reducible refine cf_one ?_
  | with_reducible refine cv_val ?_
  | with_reducible refine cv_ref ?_
  | ((with_reducible show (_ ≤ sizeLine) ∧ _); refine ⟨by walk_at "sz", ?_⟩)
  | ((with_reducible show AAs _ _ _ _ _ _ _ _ _); with_reducible refine as_name ?_)
  | ((with_reducible show ATests _ _ _ _ _ _ _); first | with_reducible refine te_nil ?_ | with_reducible refine te_one ?_)
  | (with_reducible intro _)
  | (dsimp only [AF.val, Turn]))
abbrev pw := PySem.Challenge.pw_dm0150_01
theorem q34 : Str.ofString "\"" = tx [34] := by decide
theorem fin_str {Q : AF → Loc → Sto → Prop} {l l' : List Nat} {ρ : Loc} {σ : Sto} (h : ∀ ρ', Q (.ret (.str (tx l))) ρ' σ) (e : l' = l) : Q (.ret (.str (tx l'))) ρ σ := e ▸ h ρ
theorem toNat1 : Int.toNat 1 = 1 := rfl
theorem len_m1 (n : Nat) : ((n : Int) + -1).toNat = n - 1 := by omega
theorem strip_body {C : Cx} {E : Value → Shared → Prop} {sc : Scope} {q : Str} {f : Addr} {cd : Value} {σ : Sto} {l : List Nat} {Q : AF → Loc → Sto → Prop}
    (hsc : sc = fnScope pw "strip_quotes") (ht : l.length ≤ sizeLine) (h : ∀ ρ', Q (.ret (.str (tx (stripL l)))) ρ' σ) :
    AW RF C E (execs (fnBody pw "strip_quotes") (envX q sc C.L f cd [])) Q [(Str.ofString "text", .str (tx l))] σ := by
  have hk : sc.kind = .function := by subst hsc; kernel_rfl
  have k1 : sc.names.lookup (Str.ofString "text") = some .local := by subst hsc; kernel_rfl
  clear hsc
  have hq := q34
  conv =>
    pattern fnBody _ _
    whnf
  repeat' walk_at "aw"
  all_goals refine fin_str h ?_
  all_goals simp only [decide_eq_true_eq, decide_eq_false_iff_not, toNat1, len_m1, List.length_cons, List.length_nil, Nat.zero_add] at *
  all_goals unfold stripL
  all_goals simp only [*, if_true, if_false, and_self]
theorem sum_ones : ∀ ls : List (List Nat), (∀ l ∈ ls, l.length = 1) → (ls.map List.length).sum = ls.length
  | [], _ => rfl
  | l :: r, h => by rw [List.map_cons, List.sum_cons, sum_ones r fun x hx => h x (.tail _ hx), h l (.head _), List.length_cons]; omega
theorem row_body {C : Cx} {E : Value → Shared → Prop} {sc : Scope} {q : Str} {f : Addr} {cd : Value} {σ : Sto} {a : Addr} {ns : List Int} {n : Nat} {Q : AF → Loc → Sto → Prop}
    (hsc : sc = fnScope pw "_law_row") (O : C.Ok (envX q sc C.L f cd []) n) (hb : BaseL C a (ns.map .int)) (hl : ns.length ≤ 63)
    (b1 : nsIn C.K mainGlobals (Str.ofString "abs") = some none) (b2 : nsIn C.K mainGlobals (Str.ofString "len") = some none)
    (h : ∀ l ρ', l.length ≤ 24 → Q (.ret (.str (tx l))) ρ' σ) :
    AW RF C E (execs (fnBody pw "_law_row") (envX q sc C.L f cd [])) Q [(Str.ofString "script", .ref a)] σ := by
  have hk : sc.kind = .function := by subst hsc; kernel_rfl
  have k1 : sc.names.lookup (Str.ofString "script") = some .local := by subst hsc; kernel_rfl
  have k2 : sc.names.lookup (Str.ofString "figures") = some .local := by subst hsc; kernel_rfl
  have k3 : sc.names.lookup (Str.ofString "x") = some .local := by subst hsc; kernel_rfl
  have k4 : sc.names.lookup (Str.ofString "y") = some .local := by subst hsc; kernel_rfl
  have k5 : sc.names.lookup (Str.ofString "abs") = some .globalImplicit := by subst hsc; kernel_rfl
  have k6 : sc.names.lookup (Str.ofString "len") = some .globalImplicit := by subst hsc; kernel_rfl
  clear hsc
  have G := O.gl
  have hh := O.hh
  obtain ⟨M, hM, hML⟩ : ∃ M, Str.ofString "\"\"\"\"\"'\\ \na“＂" = tx M ∧ M.length = 12 := ⟨_, str_tx _, by decide⟩
  have h00 : Str.ofString "" = tx [] := by decide
  refine AW.shrink ?_
  conv =>
    pattern fnBody _ _
    whnf
  repeat' walk_at "aw"
  rename_i D
  refine ex_cons ?_
  repeat' walk_at "aw"
  refine it_base hb fun I => ?_
  refine for_ind (iter_list (a := a) (xs := ns.map .int) hh) (fun d r ρ σ' => ∃ fs : List Int, (∀ f ∈ fs, 0 ≤ f ∧ f < 12) ∧ fs.length ≤ 24 + 2 * d.length ∧ ρ = [(Str.ofString "script", .ref a), (Str.ofString "figures", .ref D)] ∧ σ' = (D, .list (fs.map .int)) :: σ) ?_ ?step ?_ ?_
  case step =>
    rintro d v r ρ σ' hns ⟨fs, hf, hfl, rfl, rfl⟩
    obtain ⟨x, rfl⟩ := mem_ints hns
    have hd : d.length ≤ 62 := by have := congrArg List.length hns; simp at this; omega
    refine as_name ?_
    walk_at "aw"
    refine ex_seq (fun ρ σ' => ∃ gs : List Int, (∀ f ∈ gs, 0 ≤ f ∧ f < 12) ∧ gs.length ≤ 25 + 2 * d.length ∧ ρ = [(Str.ofString "script", .ref a), (Str.ofString "figures", .ref D), (Str.ofString "x", .int x)] ∧ σ' = (D, .list (gs.map .int)) :: (I, literO a (d.length + 1)) :: σ) ?_ ?_
    · repeat' walk_at "aw"
      · exact ⟨_, _, ⟨fs ++ [0], by simp only [List.mem_append, List.mem_singleton]; rintro f (h | h); exact hf f h; omega, by simp; omega, rfl, rfl⟩, by simp only [List.map_append, List.map_cons, List.map_nil]; walk_at "sb", by walk_at "ls"⟩
      · exact ⟨_, _, ⟨fs, hf, by omega, rfl, rfl⟩, by walk_at "sb", by walk_at "ls"⟩
    · rintro ρ σ' ⟨gs, hg, hgl, rfl, rfl⟩
      repeat' walk_at "aw"
      refine ex_cons ?_
      walk_at "aw"
      have hY : 0 ≤ (if x < 0 then -x else x) % 12 ^ Int.toNat 24 := Int.emod_nonneg _ (by decide)
      generalize (if x < 0 then -x else x) % 12 ^ Int.toNat 24 = Y at *
      refine while_ind (fun m ρ σ' => ∃ (y : Int) (gs : List Int), m = y.toNat ∧ 0 ≤ y ∧ (∀ f ∈ gs, 0 ≤ f ∧ f < 12) ∧ gs.length ≤ 26 + 2 * d.length ∧ ρ = [(Str.ofString "script", .ref a), (Str.ofString "figures", .ref D), (Str.ofString "x", .int x), (Str.ofString "y", .int y)] ∧ σ' = (D, .list (gs.map .int)) :: (I, literO a (d.length + 1)) :: σ) Y.toNat ?_ ?_
      · rintro m ρ σ' ⟨y, gs, rfl, hy, hg, hgl, rfl, rfl⟩
        repeat' walk_at "aw"
        · exact ⟨(y / 12).toNat, _, _, by omega, ⟨y / 12, gs ++ [y / 12 % 12], rfl, by omega, by simp only [List.mem_append, List.mem_singleton]; rintro f (h | h); exact hg f h; omega, by simp at *; omega, rfl, rfl⟩, by simp only [List.map_append, List.map_cons, List.map_nil]; walk_at "sb", by walk_at "ls"⟩
        all_goals exact ⟨_, _, ⟨gs, hg, by simp; omega, rfl, rfl⟩, by walk_at "sb", by walk_at "ls"⟩
      · exact ⟨Y, gs ++ [Y % 12], rfl, hY, by simp only [List.mem_append, List.mem_singleton]; rintro f (h | h); exact hg f h; omega, by simp; omega, rfl, by simp⟩
  · rintro d r ρ σ' ⟨fs, _, _, _, rfl⟩
    exact .inr hb
  · rintro ρ σ' ⟨fs, hf, hfl, rfl, rfl⟩
    simp only [List.length_map] at hfl
    repeat' walk_at "aw"
    rename_i S
    rw [pySl_to _ (by decide), ← List.map_take]
    generalize hgs : fs.take (Int.toNat 24) = gs
    have hg : ∀ f ∈ gs, 0 ≤ f ∧ f < 12 := fun f h => hf f (List.mem_of_mem_take (hgs ▸ h))
    have hgl : gs.length ≤ 24 := by rw [← hgs]; simp; omega
    refine it_list (by walk_at "mm") fun I => ⟨literO S 0, by walk_at "mm", ns_list, fun D' c => ?_⟩
    refine comp_ind (iter_list (a := S) (xs := gs.map .int) hh) (fun d r acc σ' => ∃ ls : List (List Nat), acc = ls.map (fun l => .str (tx l)) ∧ ls.length = d.length ∧ (∀ l ∈ ls, l.length = 1) ∧ σ' = (S, .list (gs.map .int)) :: (D, .list (fs.map .int)) :: σ) (by walk_at "sz") ?_ ?_ ?step ?_ ?_
    case step =>
      rintro d v r acc σ' hxs ⟨ls, rfl, hll, hl1, rfl⟩
      obtain ⟨x, rfl, hxm⟩ := mem_ints' hxs
      have hx := hg x hxm
      intro E'
      repeat' walk_at "aw"
      exact ⟨_, _, ⟨ls ++ [[M.getD x.toNat 0]], by simp, by simp [hll], by simp only [List.mem_append, List.mem_singleton]; rintro l (h | h); exact hl1 l h; rw [h]; rfl, rfl⟩, by walk_at "sb", by walk_at "ls"⟩
    · rintro d r acc σ' ⟨ls, _, _, _, rfl⟩
      exact .inl (by walk_at "mm")
    · rintro d r acc σ' ⟨ls, rfl, hll, _, _⟩
      simp [hll]
    · rintro acc ρ₂ σ' ⟨ls, rfl, hll, hl1, rfl⟩
      refine ⟨_, _, Pick.head, ?_⟩
      rw [List.length_map] at hll
      have hsum := sum_ones ls hl1
      repeat' walk_at "aw"
      refine ⟨[], σ, by walk_at "sb", LocSub.nil, h _ _ ?_⟩
      rw [joinL_nil, List.length_flatten]
      omega
    · exact ⟨[], rfl, rfl, by simp, rfl⟩
  · exact ⟨[], by simp, by simp, rfl, rfl⟩
theorem strip_call {C : Cx} {E : Value → Shared → Prop} {env : Env} {n : Nat} {f : Addr} {l : List Nat} {ρ : Loc} {σ : Sto} {Q : AV → Loc → Sto → Prop} (O : C.Ok env (n + 1)) (F : Fn C.K pw "strip_quotes" f) (ht : l.length ≤ sizeLine) (h : Q (.str (tx (stripL l))) ρ σ) :
    ACall C E (.ref f) [.str (tx l)] Q ρ σ :=
  b_fn (names := [Str.ofString "text"]) O F (by intro qual pm cdv vs hv; match vs, hv with | [v], _ => rfl) (by decide) (by intro y hy; rcases List.mem_singleton.mp hy; kernel_rfl) (by decide +kernel) (by kernel_rfl) (by kernel_rfl) (by kernel_rfl)
    fun C' qual cdv E' hK _ _ _ _ O' => strip_body rfl ht fun ρ' => h
theorem BaseL.stays {C C' : Cx} {a : Addr} {xs : List AV} (h : BaseL C a xs) (hs : C.h₀.StaysIn C'.h₀) : BaseL C' a xs := by
  obtain ⟨vs, r, hl⟩ := h
  exact ⟨vs, r, hl.at fun o e => hs a o e⟩
theorem row_call {C : Cx} {E : Value → Shared → Prop} {env : Env} {n : Nat} {f : Addr} {a : Addr} {ns : List Int} {ρ : Loc} {σ : Sto} {Q : AV → Loc → Sto → Prop} (O : C.Ok env (n + 1)) (F : Fn C.K pw "_law_row" f) (hB : Bn C.K ["abs", "len", "range", "max"]) (hb : BaseL C a (ns.map .int)) (hl : ns.length ≤ 63) (h : ∀ l, l.length ≤ 24 → Q (.str (tx l)) ρ σ) :
    ACall C E (.ref f) [.ref a] Q ρ σ :=
  b_fn (names := [Str.ofString "script"]) O F (by intro qual pm cdv vs hv; match vs, hv with | [v], _ => rfl) (by decide) (by intro y hy; rcases List.mem_singleton.mp hy; kernel_rfl) (by decide +kernel) (by kernel_rfl) (by kernel_rfl) (by kernel_rfl)
    fun C' qual cdv E' hK _ _ _ st O' => row_body rfl O' (hb.stays st) hl (hK ▸ hB "abs" (by simp)) (hK ▸ hB "len" (by simp)) fun l ρ' hz => h l hz
theorem law_body {C : Cx} {E : Value → Shared → Prop} {sc : Scope} {q : Str} {f f1 f2 rc : Addr} {cd : Value} {a : Addr} {ns : List Int} {n : Nat}
    (hsc : sc = fnScope pw "law") (O : C.Ok (envX q sc C.L f cd [(Str.ofString "row", rc)]) (n + 1)) (hb : BaseL C a (ns.map .int)) (hl : ns.length ≤ 63)
    (F1 : Fn C.K pw "strip_quotes" f1) (F2 : Fn C.K pw "_law_row" f2)
    (hB : Bn C.K ["abs", "len", "range", "max"]) :
    AW RF C E (execs (fnBody pw "law") (envX q sc C.L f cd [(Str.ofString "row", rc)])) (fun fl _ _ => fl = .ret (.bool true)) [(Str.ofString "script", .ref a)] [(rc, .cell none)] := by
  have hk : sc.kind = .function := by subst hsc; kernel_rfl
  have k1 : sc.names.lookup (Str.ofString "script") = some .local := by subst hsc; kernel_rfl
  have k2 : sc.names.lookup (Str.ofString "row") = some .cell := by subst hsc; kernel_rfl
  have k3 : sc.names.lookup (Str.ofString "text") = some .local := by subst hsc; kernel_rfl
  have k4 : sc.names.lookup (Str.ofString "size") = some .local := by subst hsc; kernel_rfl
  have k5 : sc.names.lookup (Str.ofString "ahead") = some .local := by subst hsc; kernel_rfl
  have k6 : sc.names.lookup (Str.ofString "behind") = some .local := by subst hsc; kernel_rfl
  have k7 : sc.names.lookup (Str.ofString "core") = some .local := by subst hsc; kernel_rfl
  have k8 : sc.names.lookup (Str.ofString "turn") = some .local := by subst hsc; kernel_rfl
  have k9 : sc.names.lookup (Str.ofString "due") = some .local := by subst hsc; kernel_rfl
  have k10 : sc.names.lookup (Str.ofString "len") = some .globalImplicit := by subst hsc; kernel_rfl
  have k11 : sc.names.lookup (Str.ofString "range") = some .globalImplicit := by subst hsc; kernel_rfl
  have k12 : sc.names.lookup (Str.ofString "max") = some .globalImplicit := by subst hsc; kernel_rfl
  have k13 : sc.names.lookup (Str.ofString "strip_quotes") = some .globalImplicit := by subst hsc; kernel_rfl
  have k14 : sc.names.lookup (Str.ofString "_law_row") = some .globalImplicit := by subst hsc; kernel_rfl
  clear hsc
  have G := O.gl
  have hh := O.hh
  have b1 := hB "len" (by simp)
  have b2 := hB "range" (by simp)
  have b3 := hB "max" (by simp)
  have g1 := F1.glob
  have g2 := F2.glob
  have kp1 := F1.keep
  have kp2 := F2.keep
  have hq := q34
  have h00 : Str.ofString "" = tx [] := by decide
  conv =>
    pattern fnBody _ _
    whnf
  repeat' walk_at "aw"
  refine row_call O F2 hB hb hl fun row hrow => ?_
  repeat' walk_at "aw"
  refine ex_cons ?_
  repeat' walk_at "aw"
  rename_i R
  refine it_rng (n := row.length + 1) (by walk_at "mm") (by omega) (by omega) (by omega) (by omega) (by omega) fun I => ⟨rit 0 (row.length + 1) 0, by walk_at "mm", ns_range, fun D c => ?_⟩
  refine comp_ind (iter_rng (x := 0) (n := row.length + 1) hh) (fun d r acc σ' => acc = (List.range d.length).map (fun k => .str (tx (row.take k))) ∧ σ' = (R, rangeO 0 (row.length + 1)) :: [(rc, .cell (some (.str (tx row))))]) (by rw [rng_length]; walk_at "sz") ?_ ?_ ?step ?_ ?_
  case step =>
    rintro d v r acc σ' hxs ⟨rfl, rfl⟩
    obtain ⟨rfl, hd⟩ := rng_split hxs
    intro E'
    repeat' walk_at "aw"
    refine ⟨_, _, ⟨?_, rfl⟩, by walk_at "sb", by walk_at "ls"⟩
    rw [List.length_append, List.length_singleton, List.range_succ, List.map_append]
    simp
  · exact fun _ _ _ _ _ => trivial
  · rintro d r acc σ' ⟨rfl, rfl⟩
    simp
  · rintro acc ρ₂ σ' ⟨rfl, rfl⟩
    refine ⟨_, _, Pick.head, ?_⟩
    rw [rng_length]
    generalize htexts : (List.range (row.length + 1)).map (fun k => AV.str (tx (row.take k))) = texts
    have htl : texts.length ≤ 25 := by rw [← htexts]; simp; omega
    have hts : ∀ v ∈ texts, ∃ l, v = .str (tx l) ∧ l.length ≤ 25 := by
      rw [← htexts]
      intro v hv
      obtain ⟨k, hk, rfl⟩ := List.mem_map.mp hv
      exact ⟨_, rfl, by simp; omega⟩
    clear htexts
    repeat' walk_at "aw"
    rename_i P T
    refine it_list (by walk_at "mm") fun I => ?_
    refine AFor.subS (σ' := [(I, literO T 0), (T, .list (texts ++ [.str (tx (row ++ [34]))]))]) ?_ (by walk_at "sb")
    refine for_ind (iter_list (a := T) (xs := texts ++ [.str (tx (row ++ [34]))]) hh) (fun d r ρ σ' => ρ = [(Str.ofString "script", .ref a)] ∧ σ' = [(T, .list (texts ++ [.str (tx (row ++ [34]))]))]) ?_ ?step ?_ ?_
    case step =>
      rintro d v r ρ σ' hxs ⟨rfl, rfl⟩
      obtain ⟨l, rfl, hl25⟩ : ∃ l, v = .str (tx l) ∧ l.length ≤ 25 := by
        have : v ∈ texts ++ [.str (tx (row ++ [34]))] := by rw [hxs]; simp
        rcases List.mem_append.mp this with h | h
        · exact hts v h
        · exact ⟨_, List.mem_singleton.mp h, by simp; omega⟩
      repeat' walk_at "aw"
      refine ex_seq (fun ρ σ' => ∃ (x : Int) (k : Nat), x = k ∧ k ≤ l.length ∧ l.take k = List.replicate k 34 ∧ (k = l.length ∨ l.getD k 0 ≠ 34) ∧ ρ = [(Str.ofString "script", .ref a), (Str.ofString "text", .str (tx l)), (Str.ofString "size", .int l.length), (Str.ofString "ahead", .int x)] ∧ σ' = [(I, literO T (d.length + 1)), (T, .list (texts ++ [.str (tx (row ++ [34]))]))]) ?_ ?_
      · walk_at "aw"
        refine while_ind (fun m ρ σ' => ∃ (x : Int) (k : Nat), m = l.length - k ∧ x = k ∧ k ≤ l.length ∧ l.take k = List.replicate k 34 ∧ ρ = [(Str.ofString "script", .ref a), (Str.ofString "text", .str (tx l)), (Str.ofString "size", .int l.length), (Str.ofString "ahead", .int x)] ∧ σ' = [(I, literO T (d.length + 1)), (T, .list (texts ++ [.str (tx (row ++ [34]))]))]) l.length ?_ ⟨0, 0, rfl, rfl, by omega, rfl, rfl, rfl⟩
        rintro m ρ σ' ⟨x, k, rfl, hx, hkl, hkt, rfl, rfl⟩
        repeat' walk_at "aw"
        · rename_i h1 h2
          have hk1 : k < l.length := by omega
          have hg : l.getD k 0 = 34 := by rw [hx] at h2; simpa using h2
          refine ⟨l.length - (k + 1), _, _, by omega, ⟨x + 1, k + 1, rfl, by omega, by omega, ?_, rfl, rfl⟩, by walk_at "sb", by walk_at "ls"⟩
          rw [List.take_add_one, hkt, List.replicate_succ']
          simp [List.getD, hk1] at hg ⊢
          exact hg
        · rename_i h1 h2
          refine ⟨_, _, ⟨x, k, hx, hkl, hkt, .inr ?_, rfl, rfl⟩, by walk_at "sb", by walk_at "ls"⟩
          rw [hx] at h2
          simpa using h2
        · exact ⟨_, _, ⟨x, k, hx, hkl, hkt, .inl (by omega), rfl, rfl⟩, by walk_at "sb", by walk_at "ls"⟩
      rintro ρ σ' ⟨x, k, hx, hkl, hkt, hke, rfl, rfl⟩
      repeat' walk_at "aw"
      refine ex_seq (fun ρ σ' => ∃ (y : Int) (b : Nat), y = b ∧ b ≤ l.length - k ∧ l.drop (l.length - b) = List.replicate b 34 ∧ (b = l.length - k ∨ l.getD (l.length - 1 - b) 0 ≠ 34) ∧ ρ = [(Str.ofString "script", .ref a), (Str.ofString "text", .str (tx l)), (Str.ofString "size", .int l.length), (Str.ofString "ahead", .int x), (Str.ofString "behind", .int y)] ∧ σ' = [(I, literO T (d.length + 1)), (T, .list (texts ++ [.str (tx (row ++ [34]))]))]) ?_ ?_
      · walk_at "aw"
        refine while_ind (fun m ρ σ' => ∃ (y : Int) (b : Nat), m = l.length - k - b ∧ y = b ∧ b ≤ l.length - k ∧ l.drop (l.length - b) = List.replicate b 34 ∧ ρ = [(Str.ofString "script", .ref a), (Str.ofString "text", .str (tx l)), (Str.ofString "size", .int l.length), (Str.ofString "ahead", .int x), (Str.ofString "behind", .int y)] ∧ σ' = [(I, literO T (d.length + 1)), (T, .list (texts ++ [.str (tx (row ++ [34]))]))]) (l.length - k) ?_ ⟨0, 0, rfl, rfl, by omega, by simp, rfl, rfl⟩
        rintro m ρ σ' ⟨y, b, rfl, hy, hbl, hbt, rfl, rfl⟩
        repeat' walk_at "aw"
        · rename_i h1 h2
          have e1 : ((l.length : Int) - 1 - y).toNat = l.length - 1 - b := by omega
          have hg : l.getD (l.length - 1 - b) 0 = 34 := by rw [e1] at h2; simpa using h2
          refine ⟨l.length - k - (b + 1), _, _, by omega, ⟨y + 1, b + 1, rfl, by omega, by omega, ?_, rfl, rfl⟩, by walk_at "sb", by walk_at "ls"⟩
          have e2 : l.length - b = l.length - (b + 1) + 1 := by omega
          have e3 : l.length - (b + 1) < l.length := by omega
          rw [List.drop_eq_getElem_cons e3, ← e2, hbt, List.replicate_succ]
          have e4 : l.length - 1 - b = l.length - (b + 1) := by omega
          rw [e4] at hg
          simp [List.getD, e3] at hg
          rw [hg]
        · rename_i h1 h2
          have e1 : ((l.length : Int) - 1 - y).toNat = l.length - 1 - b := by omega
          refine ⟨_, _, ⟨y, b, hy, hbl, hbt, .inr ?_, rfl, rfl⟩, by walk_at "sb", by walk_at "ls"⟩
          rw [e1] at h2
          simpa using h2
        · exact ⟨_, _, ⟨y, b, hy, hbl, hbt, .inl (by omega), rfl, rfl⟩, by walk_at "sb", by walk_at "ls"⟩
      rintro ρ σ' ⟨y, b, hy, hbl, hbt, hbe, rfl, rfl⟩
      repeat' walk_at "aw"
      have ex : x.toNat = k := by omega
      have ey : ((l.length : Int) - y).toNat = l.length - b := by omega
      rw [ex, ey]
      obtain ⟨hl0, hc1, hc2, hc3⟩ := parts01 l k b hkl hkt hke hbl hbt hbe
      have hcl : ((l.take (l.length - b)).drop k).length ≤ 25 := by simp; omega
      generalize (l.take (l.length - b)).drop k = core at *
      refine ex_cons ?_
      repeat' walk_at "aw"
      rename_i R
      refine it_rng (n := l.length + 1) (by walk_at "mm") (by omega) (by omega) (by omega) (by omega) (by omega) fun I2 => ?_
      refine for_ind (iter_rng (x := 1) (n := l.length + 1) hh) (fun d2 r2 ρ σ' => ρ = [(Str.ofString "script", .ref a), (Str.ofString "text", .str (tx (due01 k b core d2.length))), (Str.ofString "size", .int l.length), (Str.ofString "ahead", .int x), (Str.ofString "behind", .int y), (Str.ofString "core", .str (tx core))] ∧ σ' = [(R, rangeO 1 (↑l.length + 2)), (I, literO T (d.length + 1)), (T, .list (texts ++ [.str (tx (row ++ [34]))]))]) ?_ ?step2 ?_ ?_
      case step2 =>
        rintro d2 v r2 ρ σ' hxs2 ⟨rfl, rfl⟩
        obtain ⟨rfl, hd2⟩ := rng_split hxs2
        have hdl := due_len k b core d2.length
        have hsd := strip_due k b core d2.length hc1 hc2 hc3
        repeat' walk_at "aw"
        refine strip_call O F1 (by walk_at "sz") ?_
        rw [hsd]
        have e1 : (max (x - (1 + (d2.length : Int))) 0).toNat = k - (d2.length + 1) := by omega
        have e2 : (max (y - (1 + (d2.length : Int))) 0).toNat = b - (d2.length + 1) := by omega
        have e3 : (max (x - 2 * (1 + (d2.length : Int))) 0).toNat = k - 2 * (d2.length + 1) := by omega
        have e4 : (d2 ++ [AV.int (1 + ↑d2.length)]).length = d2.length + 1 := by simp
        repeat' walk_at "aw"
        · rename_i h1 h2
          exact absurd (by rw [e1, e2]; unfold due01; rw [if_neg h1]) h2
        · exact ⟨_, _, ⟨rfl, rfl⟩, by walk_at "sb", by rw [e4]; walk_at "ls"⟩
        · rename_i h1 h2
          exact absurd (by rw [e3]; unfold due01; rw [if_pos (Decidable.not_not.mp h1)]) h2
        · exact ⟨_, _, ⟨rfl, rfl⟩, by walk_at "sb", by rw [e4]; walk_at "ls"⟩
      · exact fun _ _ _ _ _ => trivial
      · rintro ρ σ' ⟨rfl, rfl⟩
        repeat' walk_at "aw"
        exact ⟨_, _, ⟨rfl, rfl⟩, by walk_at "sb", by walk_at "ls"⟩
      · refine ⟨?_, rfl⟩
        rw [List.length_nil, ← hl0]
    · rintro d r ρ σ' ⟨rfl, rfl⟩
      exact .inl (by walk_at "mm")
    · rintro ρ σ' ⟨rfl, rfl⟩
      repeat' walk_at "aw"
    · exact ⟨rfl, rfl⟩
  · exact ⟨rfl, rfl⟩
end Mine
open PySem PySem.W PyProof.Rows
set_option maxHeartbeats 8000000 in
theorem PySem.Challenge.cw_dm0150_01_holds : PySem.Challenge.rw_dm0150_01.Holds := by
  w_on
  o_law
  k_head
  (case hw => w_witness2)
  k_go0
  rename Frag.In _ _ => KX
  rename Top _ _ _ _ _ _ => T
  rename Below _ _ _ _ => B0
  rename Heap.IsList _ _ _ => hL
  rename IntsAre _ _ => hI
  rename Fr _ _ _ _ => F
  rename News _ _ _ _ => N0
  refine Mine.law_wp' Mine.pw (fun L => [(Str.ofString "row", L + 1)]) (fun L => [(L + 1, .cell none)]) KX T B0 hL hI F N0 (by kernel_rfl) (by kernel_rfl) (by kernel_rfl) (by with_unfolding_all rfl) ?hs (by simp) (by kernel_rfl) ?law ?hQ
  case hs =>
    intro p hp
    rcases List.mem_singleton.mp hp with rfl
    exact ⟨_, List.mem_singleton.mpr rfl, _, by assumption⟩
  case law =>
    intro C hK O hb
    refine Mine.law_body (f1 := 21) (f2 := 26) rfl O hb (by omega) ?_ ?_ ?_
    · rw [hK]; exact Mine.fn_of (by kernel_rfl) (by kernel_rfl) (by kernel_rfl) (by kernel_rfl)
    · rw [hK]; exact Mine.fn_of (by kernel_rfl) (by kernel_rfl) (by kernel_rfl) (by kernel_rfl)
    · rw [hK]; exact Mine.bn_cons (by kernel_rfl) (Mine.bn_cons (by kernel_rfl) (Mine.bn_cons (by kernel_rfl) (Mine.bn_cons (by kernel_rfl) Mine.bn_nil)))
  case hQ =>
    intro h tk m F'
    dsimp only
    wrow_close
