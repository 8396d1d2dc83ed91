import PyProof.Rows.All
import Wide.All
import OpenK.AllK
import Wide.FinOn
import PyProof.StrLawsChain
import PyProof.StrLawsTight
import PyProof.StrWalks
import PyProof.EnumMake
import PyProof.Rows.RuleDivmod
import PyProof.RulesAssignMore
import PyProof.TupleIter
import KE.KDictAnyGet
import KE.LcSums
import PyProof.Rows.StrOrd
import PyProof.Rows.TupDisplay
import PyProof.DictRoads
import KE.KNestM
import KE.KLam
import KE.KxPercentT
import PyProof.IsiBase
import PyProof.IsiHeapPairs
import PyProof.WalksPairs
import PyProof.FString5
import PySem.Challenge.RW_dm0150_07
set_option maxRecDepth 100000
set_option Elab.async false
set_option linter.all false
set_option maxHeartbeats 4000000
set_option compiler.extract_closed false
namespace Mine
open PySem PySem.W PySem.Spec PySem.Calls PyProof.Rows

/-- abstract values: values without tokens -/
inductive AV where
  | none
  | bool (b : Bool)
  | int (i : Int)
  | str (s : Str)
  | bytes (b : Array UInt8)
  | ref (a : Addr)
  | val (v : Value)

def RV : AV → Value → Prop
  | .none, v => v = .none
  | .bool b, v => v = .bool b
  | .int i, v => ∃ t, v = .int i t
  | .str s, v => ∃ t, v = .str s t
  | .bytes b, v => ∃ t, v = .bytes b t
  | .ref a, v => v = .ref a
  | .val x, v => v = x

inductive RVs : List AV → List Value → Prop
  | nil : RVs [] []
  | cons {a v as vs} : RV a v → RVs as vs → RVs (a :: as) (v :: vs)

theorem RVs.length {as vs} (h : RVs as vs) : vs.length = as.length := by
  induction h with
  | nil => rfl
  | cons _ _ ih => simp [ih]
theorem RVs.get {as vs} (h : RVs as vs) {i : Nat} {a : AV} (e : as[i]? = some a) : ∃ v, vs[i]? = some v ∧ RV a v := by
  induction h generalizing i with
  | nil => simp at e
  | @cons a' v' as' vs' h1 _ ih =>
    cases i with
    | zero => simp at e; subst e; exact ⟨_, rfl, h1⟩
    | succ i => simpa using ih (by simpa using e)
theorem RVs.append {as vs bs ws} (h : RVs as vs) (h' : RVs bs ws) : RVs (as ++ bs) (vs ++ ws) := by
  induction h with
  | nil => exact h'
  | cons h1 _ ih => exact .cons h1 ih
theorem RVs.one {a v} (h : RV a v) : RVs [a] [v] := .cons h .nil
theorem RVs.take {as vs} (h : RVs as vs) : ∀ n, RVs (as.take n) (vs.take n) := by
  induction h with
  | nil => intro n; simpa using RVs.nil
  | cons h1 _ ih => intro n; cases n with
    | zero => exact .nil
    | succ n => exact .cons h1 (ih n)
theorem RVs.drop {as vs} (h : RVs as vs) : ∀ n, RVs (as.drop n) (vs.drop n) := by
  induction h with
  | nil => intro n; simpa using RVs.nil
  | cons h1 h2 ih => intro n; cases n with
    | zero => exact .cons h1 h2
    | succ n => exact ih n
theorem RVs.set {as vs} (h : RVs as vs) {a : AV} {v : Value} (hv : RV a v) : ∀ n, RVs (as.set n a) (vs.set n v) := by
  induction h with
  | nil => intro n; simpa using RVs.nil
  | cons h1 h2 ih => intro n; cases n with
    | zero => exact .cons hv h2
    | succ n => exact .cons h1 (ih n)

abbrev Loc := List (Str × AV)

def LocOk (ρ : Loc) (m : Str → Option Value) : Prop := ∀ x v, ρ.lookup x = some v → ∃ v', m x = some v' ∧ RV v v'

/-- abstract objects -/
inductive AO where
  | list (xs : List AV)
  | tuple (xs : List AV)
  | cell (v : Option AV)
  | ns (ρ : Loc)
  | raw (o : Obj)
  | pred (P : Obj → Prop)

def RO : AO → Obj → Prop
  | .list xs, o => ∃ vs n, RVs xs vs ∧ o = { cls := .type "list", data := .seq vs.toArray n }
  | .tuple xs, o => ∃ vs n, RVs xs vs ∧ o = { cls := .type "tuple", data := .seq vs.toArray n }
  | .cell (some a), o => ∃ v, RV a v ∧ o.data = .cell (some v)
  | .cell none, o => ∃ v, o.data = .cell v
  | .ns ρ, o => ∃ m, LCg.NsObj o m ∧ LocOk ρ m
  | .raw o', o => o = o'
  | .pred P, o => P o

abbrev Sto := List (Addr × AO)

/-- the dynamic context of a frame -/
structure Cx where
  prog : Program
  w : World
  A : Around
  A₀ : Around
  base : Heap
  outer : List Env
  h₀ : Heap
  L : Addr
  s₀ : Shared
  K : Frag
  p : Program
  loose : List Str
  mg : Str → Option Value
  mb : Str → Option Value

structure Rel (C : Cx) (ρ : Loc) (σ : Sto) (s : Shared) : Prop where
  shape : ∃ h tk, s = { C.s₀ with heap := h, toks := tk }
  fr : ∃ m, Fr C.h₀ C.L s.heap m ∧ LocOk ρ m
  led : ∀ p ∈ σ, ∃ o, s.heap.get? p.1 = some o ∧ p.1 ≠ C.L ∧ C.h₀.get? p.1 = none ∧ RO p.2 o
  nd : (σ.map (·.1)).Nodup

def AW {α β : Type} (R : β → α → Prop) (C : Cx) (E : Value → Shared → Prop) (t : Sem α) (Q : β → Loc → Sto → Prop) (ρ : Loc) (σ : Sto) : Prop :=
  ∀ s, Rel C ρ σ s → wpAny (model C.prog C.w) C.A t (fun a s' => ∃ b ρ' σ', R b a ∧ Rel C ρ' σ' s' ∧ Q b ρ' σ') E s

/-- abstract flows -/
inductive AF where
  | next | brk | cont
  | ret (v : AV)
def RF : AF → Flow → Prop
  | .next, f => f = .next
  | .brk, f => f = .brk
  | .cont, f => f = .cont
  | .ret a, f => ∃ v, f = .ret v ∧ RV a v

section
variable {C : Cx} {E : Value → Shared → Prop} {ρ : Loc} {σ : Sto} {α β γ δ : Type} {s : Shared}

theorem Rel.toks (h : Rel C ρ σ s) (n : Nat) : Rel C ρ σ { s with toks := n } := by
  obtain ⟨⟨h', tk, e⟩, f, l, nd⟩ := h
  subst e
  exact ⟨⟨h', n, rfl⟩, f, l, nd⟩
theorem Rel.keeps (h : Rel C ρ σ s) {h' : Heap} (hk : ∀ b o, s.heap.get? b = some o → h'.get? b = some o) (n : Nat) : Rel C ρ σ { s with heap := h', toks := n } := by
  obtain ⟨⟨h'', tk, e⟩, ⟨m, F, l⟩, led, nd⟩ := h
  subst e
  refine ⟨⟨h', n, rfl⟩, ⟨m, ⟨F.ns.at' fun o e => hk _ o e, fun b o e => hk b o (F.keep b o e), F.above⟩, l⟩, fun p hp => ?_, nd⟩
  obtain ⟨o, e, r⟩ := led p hp
  exact ⟨o, hk _ _ e, r⟩
theorem Rel.fresh (h : Rel C ρ σ s) : C.h₀.get? s.heap.objs.size = none ∧ s.heap.objs.size ≠ C.L ∧ ∀ p ∈ σ, p.1 ≠ s.heap.objs.size := by
  obtain ⟨_, ⟨m, F, _⟩, led, _⟩ := h
  refine ⟨?_, ?_, fun p hp e => ?_⟩
  · cases hq : C.h₀.get? s.heap.objs.size with
    | none => rfl
    | some o' => exact absurd (Heap.lt_size (F.keep _ _ hq)) (Nat.lt_irrefl _)
  · exact Nat.ne_of_gt F.ns.lt
  · obtain ⟨o, e', _⟩ := led p hp
    have := Heap.lt_size e'
    rw [e] at this
    exact Nat.lt_irrefl _ this
theorem Rel.push (h : Rel C ρ σ s) {o : Obj} {ao : AO} (hr : RO ao o) (hf : o.isFreed = false) (n : Nat) : Rel C ρ ((s.heap.objs.size, ao) :: σ) { s with heap := s.heap.push o, toks := n } := by
  have hfr := h.fresh
  obtain ⟨a, b, led, nd⟩ := (h.keeps (h' := s.heap.push o) (fun b o e => Heap.get?_push_of_some _ e) n)
  refine ⟨a, b, fun p hp => ?_, ?_⟩
  · rcases List.mem_cons.mp hp with rfl | hp
    · exact ⟨o, Heap.get?_push_size _ hf, hfr.2.1, hfr.1, hr⟩
    · exact led p hp
  · rw [List.map_cons, List.nodup_cons]
    refine ⟨fun hm => ?_, nd⟩
    obtain ⟨p, hp, e⟩ := List.mem_map.mp hm
    exact hfr.2.2 p hp e
theorem Rel.sub (h : Rel C ρ σ s) {σ' : Sto} (hs : ∀ p ∈ σ', p ∈ σ) (nd : (σ'.map (·.1)).Nodup) : Rel C ρ σ' s :=
  ⟨h.shape, h.fr, fun p hp => h.led p (hs p hp), nd⟩
theorem Rel.loc (h : Rel C ρ σ s) {ρ' : Loc} (hs : ∀ x v, ρ'.lookup x = some v → ρ.lookup x = some v) : Rel C ρ' σ s := by
  obtain ⟨a, ⟨m, F, l⟩, b, c⟩ := h
  exact ⟨a, ⟨m, F, fun x v e => l x v (hs x v e)⟩, b, c⟩
/-- a heap that differs at one address of the store -/
theorem Rel.upd {pre post : Sto} {a : Addr} {ao ao' : AO} (h : Rel C ρ (pre ++ (a, ao) :: post) s) {h' : Heap} {o' : Obj} (hs : Heap.SameBut a s.heap h') (ho : h'.get? a = some o') (hr : RO ao' o') (n : Nat) :
    Rel C ρ (pre ++ (a, ao') :: post) { s with heap := h', toks := n } := by
  obtain ⟨⟨h'', tk, e⟩, ⟨m, F, l⟩, led, nd⟩ := h
  subst e
  obtain ⟨o, e1, e2, e3, _⟩ := led (a, ao) (List.mem_append_right _ (.head _))
  have nm : ∀ p ∈ pre ++ post, p.1 ≠ a := by
    intro p hp e
    simp only [List.map_append, List.map_cons] at nd
    have nd' := List.nodup_append.mp nd
    rcases List.mem_append.mp hp with hp | hp
    · exact nd'.2.2 p.1 (List.mem_map.mpr ⟨p, hp, rfl⟩) a (.head _) e
    · exact (List.nodup_cons.mp nd'.2.1).1 (e ▸ List.mem_map.mpr ⟨p, hp, rfl⟩)
  refine ⟨⟨h', n, rfl⟩, ⟨m, ⟨F.ns.sameBut hs (Ne.symm e2), fun b ob e => (hs.2 b (fun q => ?_)).trans (F.keep b ob e), F.above⟩, l⟩, fun p hp => ?_, ?_⟩
  · rw [q, e3] at e; cases e
  · rcases List.mem_append.mp hp with hp | hp
    · obtain ⟨o, x, r⟩ := led p (List.mem_append_left _ hp)
      exact ⟨o, (hs.2 _ (nm p (List.mem_append_left _ hp))).trans x, r⟩
    · rcases List.mem_cons.mp hp with rfl | hp
      · exact ⟨o', ho, e2, e3, hr⟩
      · obtain ⟨o, x, r⟩ := led p (List.mem_append_right _ (.tail _ hp))
        exact ⟨o, (hs.2 _ (nm p (List.mem_append_right _ hp))).trans x, r⟩
  · simpa using nd

theorem AW.mono {R : β → α → Prop} {t : Sem α} {Q Q' : β → Loc → Sto → Prop} (h : AW R C E t Q ρ σ) (hq : ∀ b ρ' σ', Q b ρ' σ' → Q' b ρ' σ') : AW R C E t Q' ρ σ :=
  fun s hs => wpAny_mono (h s hs) (fun _ _ ⟨b, ρ', σ', r, x, q⟩ => ⟨b, ρ', σ', r, x, hq _ _ _ q⟩) fun _ _ e => e
theorem AW.bind {R : β → α → Prop} {R' : δ → γ → Prop} {t : Sem α} {f : α → Sem γ} {Q : δ → Loc → Sto → Prop}
    (h : AW R C E t (fun b ρ' σ' => ∀ a, R b a → AW R' C E (f a) Q ρ' σ') ρ σ) : AW R' C E (t >>= f) Q ρ σ :=
  fun s hs => wpAny_bind (wpAny_mono (h s hs) (fun a s' ⟨_, _, _, r, x, q⟩ => q a r s' x) fun _ _ e => e)
theorem AW.pure {R : β → α → Prop} {a : α} {b : β} {Q : β → Loc → Sto → Prop} (r : R b a) (h : Q b ρ σ) : AW R C E (Pure.pure a) Q ρ σ :=
  fun _ hs => wpAny_pure ⟨b, ρ, σ, r, hs, h⟩
theorem AW.sub {R : β → α → Prop} {t : Sem α} {Q : β → Loc → Sto → Prop} {σ' : Sto} (h : AW R C E t Q ρ σ') (hs : ∀ p ∈ σ', p ∈ σ) (nd : ∀ s, Rel C ρ σ s → (σ'.map (·.1)).Nodup) : AW R C E t Q ρ σ :=
  fun s hr => h s (hr.sub hs (nd s hr))
theorem AW.sublist {R : β → α → Prop} {t : Sem α} {Q : β → Loc → Sto → Prop} {σ' : Sto} (h : AW R C E t Q ρ σ') (hs : List.Sublist σ' σ) : AW R C E t Q ρ σ :=
  h.sub (fun _ hp => hs.subset hp) (fun _ hr => (hs.map _).nodup hr.nd)
theorem AW.loc {R : β → α → Prop} {t : Sem α} {Q : β → Loc → Sto → Prop} {ρ' : Loc} (h : AW R C E t Q ρ' σ) (hs : ∀ x v, ρ'.lookup x = some v → ρ.lookup x = some v) : AW R C E t Q ρ σ :=
  fun s hr => h s (hr.loc hs)
end

/-- what holds of a frame: n is the room left for calls -/
structure Cx.Ok (C : Cx) (env : Env) (n : Nat) : Prop where
  B : Below C.A₀ C.base C.outer C.h₀
  X : C.K.In C.h₀
  T : TopRead C.p C.loose C.mg C.mb C.h₀
  hA : C.A.frames = some (env :: C.outer)
  hf : env.frame = some C.L
  hk : env.scope.kind = .function
  hh : C.A.handled = none
  depth : C.A.depth + n < recursionLimit
  units : C.A.units + 10 * n < cLine

/-- what the names of the top need -/
structure Cx.Gl (C : Cx) : Prop where
  X : C.K.In C.h₀
  T : TopRead C.p C.loose C.mg C.mb C.h₀
theorem Cx.Ok.gl {C : Cx} {env : Env} {n : Nat} (h : C.Ok env n) : C.Gl := ⟨h.X, h.T⟩

section names
variable {C : Cx} {E : Value → Shared → Prop} {ρ : Loc} {σ : Sto} {env : Env} {x : Str} {pos : Pos} {v : AV} {Q : AV → Loc → Sto → Prop}
theorem aw_local (hl : ρ.lookup x = some v) (h : Q v ρ σ) (hL : env.locals = C.L := by rfl) (hk : env.scope.kind = .function := by rfl) (hx : env.kindOf x = some .local := by rfl) (hd : (x == ("__debug__" : Str)) = false := by decide) :
    AW RV C E (eval (.Name x pos) env) Q ρ σ := fun s hs => by
  obtain ⟨m, F, l⟩ := hs.fr
  obtain ⟨v', e, r⟩ := l x v hl
  exact wpAny_Name (wpAny_loadName_local hk hx (hL ▸ F.ns) e ⟨v, ρ, σ, r, hs, h⟩) hd
theorem aw_ns {c : Addr} {ρ₂ : Loc} (hm : (c, AO.ns ρ₂) ∈ σ) (hl : ρ₂.lookup x = some v) (h : Q v ρ σ) (hL : env.locals = c := by rfl) (hk : env.scope.kind = .function := by rfl) (hx : env.kindOf x = some .local := by rfl) (hd : (x == ("__debug__" : Str)) = false := by decide) :
    AW RV C E (eval (.Name x pos) env) Q ρ σ := fun s hs => by
  obtain ⟨o, e, _, _, m, hn, l⟩ := hs.led _ hm
  obtain ⟨v', e', r⟩ := l x v hl
  subst hL
  exact wpAny_Name (wpAny_loadName_local hk hx (hn.ns e) e' ⟨v, ρ, σ, r, hs, h⟩) hd
theorem aw_glob {v' : Value} (G : C.Gl) (e : nsIn C.K mainGlobals x = some (some v')) (r : RV v v') (h : Q v ρ σ) (hg : env.globals = mainGlobals := by rfl) (hk : env.scope.kind = .function := by rfl) (hx : env.kindOf x = some .globalImplicit := by rfl) (hd : (x == ("__debug__" : Str)) = false := by decide) :
    AW RV C E (eval (.Name x pos) env) Q ρ σ := fun s hs => by
  obtain ⟨m, F, _⟩ := hs.fr
  exact Name_function_global hk hx (loadGlobal_global (hg ▸ G.T.g.keeps F.keep) (mg_of G.X G.T.g e) ⟨v, ρ, σ, r, hs, h⟩) hd
theorem aw_builtin {v' : Value} (G : C.Gl) (e : nsIn C.K mainGlobals x = some none) (hv : bootBuiltins x = some v') (r : RV v v') (h : Q v ρ σ) (hn : x ≠ "__name__" := by decide) (hg : env.globals = mainGlobals := by rfl) (hbn : env.builtins = builtinsNs := by rfl) (hk : env.scope.kind = .function := by rfl) (hx : env.kindOf x = some .globalImplicit := by rfl) (hd : (x == ("__debug__" : Str)) = false := by decide) :
    AW RV C E (eval (.Name x pos) env) Q ρ σ := fun s hs => by
  obtain ⟨m, F, _⟩ := hs.fr
  exact Name_function_global hk hx (loadGlobal_builtin (hg ▸ G.T.g.keeps F.keep) (mg_none_of G.X G.T.g e) (hbn ▸ G.T.b.keeps F.keep) ((G.T.builtins x hn).trans hv) ⟨v, ρ, σ, r, hs, h⟩) hd
end names
end Mine
namespace Mine
open PySem PySem.W PySem.Spec PySem.Calls PyProof.Rows

/-- two values related, then a tree over them -/
def A2 (C : Cx) (E : Value → Shared → Prop) (t : Value → Value → Sem Value) (a b : AV) (Q : AV → Loc → Sto → Prop) (ρ : Loc) (σ : Sto) : Prop :=
  ∀ va vb, RV a va → RV b vb → AW RV C E (t va vb) Q ρ σ
def A1 (C : Cx) (E : Value → Shared → Prop) (t : Value → Sem Value) (a : AV) (Q : AV → Loc → Sto → Prop) (ρ : Loc) (σ : Sto) : Prop :=
  ∀ va, RV a va → AW RV C E (t va) Q ρ σ
def ATr (C : Cx) (E : Value → Shared → Prop) (a : AV) (Q : Bool → Loc → Sto → Prop) (ρ : Loc) (σ : Sto) : Prop :=
  ∀ va, RV a va → AW (Eq (α := Bool)) C E (truthy va) Q ρ σ
def ACall (C : Cx) (E : Value → Shared → Prop) (f : Value) (as : List AV) (Q : AV → Loc → Sto → Prop) (ρ : Loc) (σ : Sto) : Prop :=
  ∀ vs, RVs as vs → AW RV C E (call f vs []) Q ρ σ
abbrev Op2 (C : Cx) (E : Value → Shared → Prop) (op : Operator) := A2 C E (binaryOp op)
abbrev Cmp2 (C : Cx) (E : Value → Shared → Prop) (op : CmpOp) := A2 C E (compareOp op)

section
variable {C : Cx} {E : Value → Shared → Prop} {ρ : Loc} {σ : Sto} {env : Env} {pos : Pos} {Q : AV → Loc → Sto → Prop} {QB : Bool → Loc → Sto → Prop} {QF : AF → Loc → Sto → Prop}

theorem AW.lift1 {α β : Type} {R : β → α → Prop} {t : Sem α} {Q1 : β → Loc → Sto → Prop} {P : α → Shared → Prop} {s : Shared} (h : AW R C E t Q1 ρ σ) (hs : Rel C ρ σ s)
    (k : ∀ a b ρ' σ' s', R b a → Rel C ρ' σ' s' → Q1 b ρ' σ' → P a s') : wpAny (model C.prog C.w) C.A t P E s :=
  wpAny_mono (h s hs) (fun a s' ⟨b, ρ', σ', r, x, q⟩ => k a b ρ' σ' s' r x q) fun _ _ e => e

-- constants
theorem aw_int {i : Int} {k : Nat} (h : Q (.int i) ρ σ) : AW RV C E (eval (.Constant (.int i) k pos) env) Q ρ σ :=
  fun _ hs => wpAny_Constant_int ⟨.int i, _, _, ⟨_, rfl⟩, hs.toks _, h⟩
theorem aw_str {x : Str} {k : Nat} (h : Q (.str x) ρ σ) : AW RV C E (eval (.Constant (.str x) k pos) env) Q ρ σ :=
  fun _ hs => Constant_str ⟨.str x, _, _, ⟨_, rfl⟩, hs.toks _, h⟩
theorem aw_bool {x : Bool} {k : Nat} (h : Q (.bool x) ρ σ) : AW RV C E (eval (.Constant (.bool x) k pos) env) Q ρ σ :=
  fun _ hs => wpAny_Constant_bool ⟨.bool x, _, _, rfl, hs, h⟩
theorem aw_none {k : Nat} (h : Q .none ρ σ) : AW RV C E (eval (.Constant .none k pos) env) Q ρ σ :=
  fun _ hs => wpAny_Constant_none ⟨.none, _, _, rfl, hs, h⟩

-- operators
theorem aw_BinOp {l r : Expr} {op : Operator} (h : AW RV C E (eval l env) (fun a ρ₁ σ₁ => AW RV C E (eval r env) (fun b ρ₂ σ₂ => Op2 C E op a b Q ρ₂ σ₂) ρ₁ σ₁) ρ σ) :
    AW RV C E (eval (.BinOp l op r pos) env) Q ρ σ :=
  fun _ hs => wpAny_BinOp (h.lift1 hs fun va _ _ _ _ ra hs₁ h₁ => h₁.lift1 hs₁ fun vb _ _ _ _ rb hs₂ h₂ => h₂ va vb ra rb _ hs₂)
theorem aw_UnaryOp {x : Expr} {op : UnaryOp} (h : AW RV C E (eval x env) (fun a ρ₁ σ₁ => A1 C E (unaryOp op) a Q ρ₁ σ₁) ρ σ) : AW RV C E (eval (.UnaryOp op x pos) env) Q ρ σ :=
  fun _ hs => UnaryOp_ (h.lift1 hs fun va _ _ _ _ ra hs₁ h₁ => h₁ va ra _ hs₁)
theorem aw_or {e₁ e₂ : Expr} {rest : List Expr} (h : AW RV C E (eval e₁ env) (fun v ρ₁ σ₁ => ATr C E v (fun c ρ₂ σ₂ => if c = true then Q v ρ₂ σ₂ else AW RV C E (eval (.BoolOp .Or (e₂ :: rest) pos) env) Q ρ₂ σ₂) ρ₁ σ₁) ρ σ) :
    AW RV C E (eval (.BoolOp .Or (e₁ :: e₂ :: rest) pos) env) Q ρ σ :=
  fun _ hs => BoolOp_or (h.lift1 hs fun va a _ _ _ ra hs₁ h₁ => (h₁ va ra).lift1 hs₁ fun c c' _ _ _ rc hs₂ h₂ => by
    subst rc
    split at h₂
    · rename_i hc; rw [if_pos hc]; exact ⟨a, _, _, ra, hs₂, h₂⟩
    · rename_i hc; rw [if_neg hc]; exact h₂ _ hs₂)
theorem aw_bool1 {e : Expr} {op : BoolOp} (h : AW RV C E (eval e env) Q ρ σ) : AW RV C E (eval (.BoolOp op [e] pos) env) Q ρ σ := fun s hs => BoolOp_one (h s hs)

-- truth
theorem it_plain {e : Expr} {whole : Sem Value} (h : AW RV C E whole (fun v ρ₁ σ₁ => ATr C E v QB ρ₁ σ₁) ρ σ)
    (hp : isTrue e env whole = (do let v ← whole; standAt e.pos; holding [v] (truthy v)) := by rfl) : AW (Eq (α := Bool)) C E (isTrue e env whole) QB ρ σ :=
  fun _ hs => isTrue_plain (h.lift1 hs fun va _ _ _ _ ra hs₁ h₁ => (h₁ va ra) _ hs₁) hp
theorem it_not {x : Expr} {whole : Sem Value} (h : AW (Eq (α := Bool)) C E (isTrue x env (eval x env)) (fun c ρ₁ σ₁ => QB (!c) ρ₁ σ₁) ρ σ) : AW (Eq (α := Bool)) C E (isTrue (.UnaryOp .Not x pos) env whole) QB ρ σ :=
  fun _ hs => isTrue_not (h.lift1 hs fun c c' _ _ _ ra hs₁ h₁ => ⟨!c', _, _, by rw [ra], hs₁, h₁⟩)
theorem it_cmp {l r : Expr} {op : CmpOp} {whole : Sem Value} (h : AW RV C E (eval l env) (fun a ρ₁ σ₁ => AW RV C E (eval r env) (fun b ρ₂ σ₂ => Cmp2 C E op a b (fun v ρ₃ σ₃ => ATr C E v QB ρ₃ σ₃) ρ₂ σ₂) ρ₁ σ₁) ρ σ) (hm : behindInMarks op r = false := by rfl) :
    AW (Eq (α := Bool)) C E (isTrue (.Compare l [op] [r] pos) env whole) QB ρ σ :=
  fun _ hs => wpAny_isTrue_Compare1 (h.lift1 hs fun va _ _ _ _ ra hs₁ h₁ => h₁.lift1 hs₁ fun vb _ _ _ _ rb hs₂ h₂ => (h₂ va vb ra rb).lift1 hs₂ fun vc _ _ _ _ rc hs₃ h₃ => h₃ vc rc _ hs₃) hm
theorem it_bool {op : BoolOp} {es : List Expr} {whole : Sem Value} (h : AW (Eq (α := Bool)) C E (allTrue op es env) QB ρ σ) : AW (Eq (α := Bool)) C E (isTrue (.BoolOp op es pos) env whole) QB ρ σ := h
theorem at_nil {op : BoolOp} (h : QB (op == .And) ρ σ) : AW (Eq (α := Bool)) C E (allTrue op [] env) QB ρ σ := AW.pure rfl h
theorem at_and {x : Expr} {rest : List Expr} (h : AW (Eq (α := Bool)) C E (isTrue x env (eval x env)) (fun c ρ₁ σ₁ => if c = true then AW (Eq (α := Bool)) C E (allTrue .And rest env) QB ρ₁ σ₁ else QB false ρ₁ σ₁) ρ σ) :
    AW (Eq (α := Bool)) C E (allTrue .And (x :: rest) env) QB ρ σ := by
  refine AW.bind (h.mono fun c ρ₁ σ₁ h₁ a e => ?_)
  subst e
  cases c with
  | true => exact h₁
  | false => exact AW.pure rfl h₁
theorem tr_bool {b : Bool} (h : QB b ρ σ) : ATr C E (.bool b) QB ρ σ := by
  rintro _ rfl
  intro s hs
  exact wpAny_truthy_bool ⟨b, ρ, σ, rfl, hs, h⟩

-- statements
theorem ex_nil (h : QF .next ρ σ) : AW RF C E (execs [] env) QF ρ σ := fun _ hs => wpAny_execs_nil ⟨.next, _, _, rfl, hs, h⟩
theorem ex_cons {st : Stmt} {rest : List Stmt} (h : AW RF C E (exec st env) (fun f ρ₁ σ₁ => match f with | .next => AW RF C E (execs rest env) QF ρ₁ σ₁ | f => QF f ρ₁ σ₁) ρ σ) : AW RF C E (execs (st :: rest) env) QF ρ σ :=
  fun _ hs => wpAny_execs_cons (h.lift1 hs fun f f' _ _ _ rf hs₁ h₁ => by
    cases f' with
    | next => cases rf; exact h₁ _ hs₁
    | brk => cases rf; exact ⟨.brk, _, _, rfl, hs₁, h₁⟩
    | cont => cases rf; exact ⟨.cont, _, _, rfl, hs₁, h₁⟩
    | ret a => obtain ⟨v, rfl, rv⟩ := rf; exact ⟨.ret a, _, _, ⟨v, rfl, rv⟩, hs₁, h₁⟩)
theorem ex_return {e : Expr} (h : AW RV C E (eval e env) (fun v => QF (.ret v)) ρ σ) : AW RF C E (exec (.Return (some e) pos) env) QF ρ σ :=
  fun _ hs => wpAny_Return_some (h.lift1 hs fun v a _ _ _ rv hs₁ h₁ => ⟨.ret a, _, _, ⟨v, rfl, rv⟩, hs₁, h₁⟩)
theorem ex_if {t : Expr} {b o : List Stmt} (h : AW (Eq (α := Bool)) C E (isTrue t env (eval t env)) (fun c ρ₁ σ₁ => if c = true then AW RF C E (execs b env) QF ρ₁ σ₁ else AW RF C E (execs o env) QF ρ₁ σ₁) ρ σ) :
    AW RF C E (exec (.If t b o pos) env) QF ρ σ :=
  fun _ hs => wpAny_If (h.lift1 hs fun c c' _ _ _ ra hs₁ h₁ => by
    subst ra
    split at h₁
    · rename_i hc; rw [if_pos hc]; exact h₁ _ hs₁
    · rename_i hc; rw [if_neg hc]; exact h₁ _ hs₁)

/-- storing a name -/
def ASt (C : Cx) (E : Value → Shared → Prop) (env : Env) (x : Str) (a : AV) (Q : Loc → Sto → Prop) (ρ : Loc) (σ : Sto) : Prop :=
  ∀ v, RV a v → AW (Eq (α := Unit)) C E (storeName env x v) (fun _ => Q) ρ σ
def rset (ρ : Loc) (x : Str) (a : AV) : Loc := match ρ with
  | [] => [(x, a)]
  | (y, b) :: r => if x = y then (x, a) :: r else (y, b) :: rset r x a
theorem rset_lookup (ρ : Loc) (x : Str) (a : AV) (y : Str) : (rset ρ x a).lookup y = if y = x then some a else ρ.lookup y := by
  induction ρ with
  | nil =>
    by_cases h : y = x
    · simp [rset, List.lookup_cons, h]
    · simp [rset, List.lookup_cons, h, beq_eq_false_iff_ne.mpr h]
  | cons p r ih =>
    obtain ⟨z, b⟩ := p
    unfold rset
    by_cases hxz : x = z
    · subst hxz
      rw [if_pos rfl]
      by_cases h : y = x
      · simp [h]
      · simp [List.lookup_cons, h, beq_eq_false_iff_ne.mpr h]
    · rw [if_neg hxz]
      by_cases h : y = z
      · subst h
        have : y ≠ x := Ne.symm hxz
        simp [List.lookup_cons, this]
      · simp only [List.lookup_cons, beq_eq_false_iff_ne.mpr h]
        exact ih
theorem st_local {x : Str} {a : AV} {Q : Loc → Sto → Prop} (h : Q (rset ρ x a) σ) (hL : env.locals = C.L := by rfl) (hk : env.scope.kind = .function := by rfl) (hx : env.kindOf x = some .local := by rfl) : ASt C E env x a Q ρ σ := by
  intro v rv s hs
  obtain ⟨m, F, l⟩ := hs.fr
  refine wpAny_storeName_local hx (hL ▸ F.ns) (fun h' hn hsb => ⟨(), rset ρ x a, σ, rfl, ?_, h⟩) (by rw [hk]; rfl)
  rw [hL] at hn hsb
  obtain ⟨⟨h'', tk, e⟩, _, led, nd⟩ := hs
  subst e
  refine ⟨⟨h', _, rfl⟩, ⟨_, F.set hn hsb, fun y w e => ?_⟩, fun p hp => ?_, nd⟩
  · rw [rset_lookup] at e
    by_cases hy : y = x
    · subst hy; simp only [if_true] at e ⊢; cases e; exact ⟨v, rfl, rv⟩
    · rw [if_neg hy] at e ⊢; exact l y w e
  · obtain ⟨o, e1, e2, r⟩ := led p hp
    exact ⟨o, (hsb.2 _ e2).trans e1, e2, r⟩
theorem st_ns {x : Str} {a : AV} {c : Addr} {ρ₂ : Loc} {pre post : Sto} {Q : Loc → Sto → Prop} (hσ : σ = pre ++ (c, .ns ρ₂) :: post) (h : Q ρ (pre ++ (c, .ns (rset ρ₂ x a)) :: post)) (hL : env.locals = c := by rfl) (hk : env.scope.kind = .function := by rfl) (hx : env.kindOf x = some .local := by rfl) : ASt C E env x a Q ρ σ := by
  intro v rv s hs
  subst hσ
  obtain ⟨o, e, n1, n2, m, hn, l⟩ := hs.led (c, .ns ρ₂) (List.mem_append_right _ (.head _))
  subst hL
  refine wpAny_storeName_local hx (hn.ns e) (fun h' hn' hsb => ?_) (by rw [hk]; rfl)
  obtain ⟨o', e', hn''⟩ := LCg.ns_obj hn'
  refine ⟨(), ρ, _, rfl, hs.upd hsb e' (ao' := .ns (rset ρ₂ x a)) ⟨_, hn'', fun y w e => ?_⟩ _, h⟩
  rw [rset_lookup] at e
  by_cases hy : y = x
  · subst hy; simp only [if_true] at e ⊢; cases e; exact ⟨v, rfl, rv⟩
  · rw [if_neg hy] at e ⊢; exact l y w e
theorem ex_assign {x : Str} {p' : Pos} {e : Expr} (h : AW RV C E (eval e env) (fun a ρ₁ σ₁ => ASt C E env x a (QF .next) ρ₁ σ₁) ρ σ) (hsw : swapsWith e (some (.Name x p')) pos.line env = pure false := by rfl) :
    AW RF C E (exec (.Assign [.Name x p'] e pos) env) QF ρ σ :=
  fun _ hs => wpAny_Assign_Name (h.lift1 hs fun v _ _ _ _ rv hs₁ h₁ => (h₁ v rv).lift1 hs₁ fun _ _ _ _ _ _ hs₂ h₂ => ⟨.next, _, _, rfl, hs₂, h₂⟩) hsw

-- calls
def Kp (C : Cx) (f : Value) (σ : Sto) : Prop := ∀ ρ s, Rel C ρ σ s → ∃ k, (k = Keeper.frame ∨ k = Keeper.machine ∨ k = Keeper.boundFrame) ∧ Looks (model C.prog C.w) s.heap (keeperOf f) k
theorem kp_builtin {id : String} : Kp C (.builtin id) σ := fun _ _ _ => ⟨.machine, .inr (.inl rfl), .now⟩
theorem kp_type {T : String} : Kp C (.type T) σ := fun _ _ _ => ⟨.machine, .inr (.inl rfl), .now⟩
theorem kp_K (G : C.Gl) {f : Value} (hk : keepIn C.K f = true) : Kp C f σ := fun _ _ hs => by
  obtain ⟨m, F, _⟩ := hs.fr
  exact keeps_K hk _ (G.X.keeps F.keep)
theorem sp_nil {p : Pos} {QL : List AV → Loc → Sto → Prop} (h : QL [] ρ σ) : AW RVs C E (spliced (backTo p (starEach [] env))) QL ρ σ := fun _ hs => spliced_none ⟨_, _, _, .nil, hs, h⟩
theorem sp_cons {p : Pos} {e : Expr} {rest : List Expr} {QL : List AV → Loc → Sto → Prop} (h : AW RV C E (eval e env) (fun a ρ₁ σ₁ => AW RVs C E (spliced (backTo p (starEach rest env))) (fun as ρ₂ σ₂ => QL (a :: as) ρ₂ σ₂) ρ₁ σ₁) ρ σ)
    (he : starEach (e :: rest) env = (false, eval e env) :: starEach rest env := by rfl) : AW RVs C E (spliced (backTo p (starEach (e :: rest) env))) QL ρ σ :=
  fun _ hs => spliced_more (h.lift1 hs fun v _ _ _ _ rv hs₁ h₁ => h₁.lift1 hs₁ fun vs _ _ _ _ rvs hs₂ h₂ => ⟨_, _, _, .cons rv rvs, hs₂, h₂⟩) he
theorem cw_more {p : Pos} {f : Value} {first : List Value} {fa : List AV} {e : Expr} {rest : List Expr} (rf : RVs fa first) (h : AW RVs C E (spliced (backTo p (starEach (e :: rest) env))) (fun as ρ₁ σ₁ => Kp C f σ₁ ∧ ACall C E f (fa ++ as) Q ρ₁ σ₁) ρ σ)
    (he : starEach (e :: rest) env = (false, eval e env) :: starEach rest env := by rfl) (hplain : (backTo p (starEach rest env)).any (·.1) = false := by rfl) :
    AW RV C E (callWith p f first (backTo p (starEach (e :: rest) env)) []) Q ρ σ := by
  intro s hs
  have h' := h
  rw [he] at h' ⊢
  refine callWith_of (P := fun hp => ∃ k, (k = Keeper.frame ∨ k = Keeper.machine ∨ k = Keeper.boundFrame) ∧ Looks (model C.prog C.w) hp (keeperOf f) k) (by show ((false || (backTo p (starEach rest env)).any (·.1)) || false) = false; rw [hplain]; rfl) (fun _ x => x) (evalArgs_plain ?_)
  exact h'.lift1 hs fun vs _ _ _ _ rvs hs₁ h₁ => ⟨h₁.1 _ _ hs₁, h₁.2 _ (rf.append rvs) _ hs₁⟩
theorem cw_none {p : Pos} {f : Value} {first : List Value} {fa : List AV} (rf : RVs fa first) (hk : Kp C f σ) (h : ACall C E f fa Q ρ σ) :
    AW RV C E (callWith p f first (backTo p (starEach [] env)) []) Q ρ σ := by
  intro s hs
  refine callWith_of (P := fun hp => ∃ k, (k = Keeper.frame ∨ k = Keeper.machine ∨ k = Keeper.boundFrame) ∧ Looks (model C.prog C.w) hp (keeperOf f) k) rfl (fun _ x => x) (evalArgs_nil3 ⟨hk _ _ hs, ?_⟩)
  rw [List.append_nil]
  exact h _ rf _ hs
theorem aw_Call {func : Expr} {args : List Expr} (h : AW RV C E (eval func env) (fun f ρ₁ σ₁ => ∀ fv, RV f fv → AW RV C E (callWith pos fv [] (backTo pos (starEach args env)) []) Q ρ₁ σ₁) ρ σ)
    (he : eval (.Call func args [] pos) env = (do callWith pos (← eval func env) [] (backTo pos (starEach args env)) (backToKw pos (keywordEach [] env))) := by rfl) :
    AW RV C E (eval (.Call func args [] pos) env) Q ρ σ :=
  fun _ hs => Call_ (h.lift1 hs fun v _ _ _ _ rv hs₁ h₁ => h₁ v rv _ hs₁) he
/-- a method's function and its first arguments -/
def AMeth (C : Cx) (E : Value → Shared → Prop) (a : AV) (name : Str) (pl : Sem Bool) (P : Value → List AV → Loc → Sto → Prop) (ρ : Loc) (σ : Sto) : Prop :=
  ∀ v, RV a v → ∀ s, Rel C ρ σ s → wpAny (model C.prog C.w) C.A (getMethod v name pl) (fun fx s' => ∃ fa ρ' σ', RVs fa fx.2 ∧ Rel C ρ' σ' s' ∧ P fx.1 fa ρ' σ') E s
theorem aw_Method {o : Expr} {name : Str} {apos : Pos} {args : List Expr} {pl : Sem Bool} (h : AW RV C E (eval o env) (fun a ρ₁ σ₁ => AMeth C E a name pl (fun f fa ρ₂ σ₂ => ∀ first, RVs fa first → AW RV C E (callWith pos f first (backTo pos (starEach args env)) []) Q ρ₂ σ₂) ρ₁ σ₁) ρ σ)
    (he : eval (.Call (.Attribute o name apos) args [] pos) env = (do
          let ov ← eval o env
          standAt (Pos.atName apos)
          let (f, first) ← holding [ov] (getMethod ov name pl)
          callWith pos f first (backTo pos (starEach args env)) []) := by rfl) :
    AW RV C E (eval (.Call (.Attribute o name apos) args [] pos) env) Q ρ σ :=
  fun _ hs => MethodCall_ (pl := pl) (h.lift1 hs fun v _ _ _ _ rv hs₁ h₁ => wpAny_mono (h₁ v rv _ hs₁) (fun fx s' ⟨fa, ρ', σ', rf, hs₂, h₂⟩ => h₂ _ rf _ hs₂) fun _ _ e => e) he
-- items
theorem aw_Subscript {value slice : Expr} (h : AW RV C E (eval value env) (fun o ρ₁ σ₁ => AW RV C E (eval slice env) (fun i ρ₂ σ₂ => A2 C E (subscriptTail value slice) o i Q ρ₂ σ₂) ρ₁ σ₁) ρ σ) :
    AW RV C E (eval (.Subscript value slice pos) env) Q ρ σ :=
  fun _ hs => Subscript_ (h.lift1 hs fun va _ _ _ _ ra hs₁ h₁ => h₁.lift1 hs₁ fun vb _ _ _ _ rb hs₂ h₂ => h₂ va vb ra rb _ hs₂)
theorem ep_none (h : Q .none ρ σ) : AW RV C E (evalPart none env) Q ρ σ := AW.pure (R := RV) (a := Value.none) (b := .none) rfl h
theorem ep_some {e : Expr} (h : AW RV C E (eval e env) Q ρ σ) : AW RV C E (evalPart (some e) env) Q ρ σ := h
theorem aw_List {es : List Expr} (h : AW RVs C E (spliced (backTo pos (starEach es env))) (fun as ρ₁ σ₁ => as.length ≤ sizeLine ∧ ∀ r, Q (.ref r) ρ₁ ((r, .list as) :: σ₁)) ρ σ) : AW RV C E (eval (.List es pos) env) Q ρ σ :=
  fun _ hs => List_ (h.lift1 hs fun vs as _ _ _ rvs hs₁ h₁ => by
    refine wpAny_newObj_type ?_ (by show vs.toArray.size ≤ sizeLine; rw [List.size_toArray, rvs.length]; exact h₁.1)
    exact ⟨.ref _, _, _, rfl, hs₁.push (ao := .list as) ⟨vs, 0, rvs, rfl⟩ rfl _, h₁.2 _⟩)
theorem aw_Tuple {es : List Expr} {k : Nat} (h : AW RVs C E (spliced (backTo pos (starEach es env))) (fun as ρ₁ σ₁ => as.length ≤ sizeLine ∧ ∀ r, Q (.ref r) ρ₁ ((r, .tuple as) :: σ₁)) ρ σ) : AW RV C E (eval (.Tuple es k pos) env) Q ρ σ :=
  fun _ hs => Tuple_ (h.lift1 hs fun vs as _ _ _ rvs hs₁ h₁ => by
    refine wpAny_newObj_type ?_ (by show vs.toArray.size ≤ sizeLine; rw [List.size_toArray, rvs.length]; exact h₁.1)
    exact ⟨.ref _, _, _, rfl, hs₁.push (ao := .tuple as) ⟨vs, 0, rvs, rfl⟩ rfl _, h₁.2 _⟩)
end
end Mine
namespace Mine
open PySem PySem.W PySem.Spec PySem.Calls PyProof.Rows

theorem Rel.appL {C : Cx} {ρ : Loc} {pre post : Sto} {a : Addr} {ao : AO} {s : Shared} (h : Rel C ρ (pre ++ (a, ao) :: post) s) : Rel C ρ (pre ++ post) s := by
  refine h.sub (fun p hp => ?_) ?_
  · rcases List.mem_append.mp hp with hp | hp
    · exact List.mem_append_left _ hp
    · exact List.mem_append_right _ (.tail _ hp)
  · have := h.nd
    rw [List.map_append, List.map_cons] at this
    rw [List.map_append]
    exact this.sublist (List.Sublist.append (List.Sublist.refl _) (List.sublist_cons_self _ _))
/-- a heap that keeps all but one address -/
theorem Rel.extBut {C : Cx} {ρ : Loc} {pre post : Sto} {a : Addr} {ao : AO} {s : Shared} (h : Rel C ρ (pre ++ (a, ao) :: post) s) {h' : Heap} (he : Heap.ExtBut a s.heap h') (n : Nat) : Rel C ρ (pre ++ post) { s with heap := h', toks := n } := by
  have h1 := h.appL
  obtain ⟨o, e1, e2, e3, _⟩ := h.led (a, ao) (List.mem_append_right _ (.head _))
  have nm : ∀ p ∈ pre ++ post, p.1 ≠ a := by
    intro p hp e
    have nd := h.nd
    simp only [List.map_append, List.map_cons] at nd
    have nd' := List.nodup_append.mp nd
    rcases List.mem_append.mp hp with hp | hp
    · exact nd'.2.2 p.1 (List.mem_map.mpr ⟨p, hp, rfl⟩) a (.head _) e
    · exact (List.nodup_cons.mp nd'.2.1).1 (e ▸ List.mem_map.mpr ⟨p, hp, rfl⟩)
  obtain ⟨⟨h'', tk, e⟩, ⟨m, F, l⟩, led, nd⟩ := h1
  subst e
  refine ⟨⟨h', n, rfl⟩, ⟨m, ⟨F.ns.at' fun o e => he _ o (Ne.symm e2) e, fun b ob e => he b ob (fun q => ?_) (F.keep b ob e), F.above⟩, l⟩, fun p hp => ?_, nd⟩
  · rw [q, e3] at e; cases e
  · obtain ⟨o, x, r⟩ := led p hp
    exact ⟨o, he _ _ (nm p hp) x, r⟩

/-- the store less one entry -/
def Pick (e : Addr × AO) (σ σ' : Sto) : Prop := σ.Perm (e :: σ')
theorem Pick.head {e : Addr × AO} {σ : Sto} : Pick e (e :: σ) σ := .refl _
theorem Pick.tail {e x : Addr × AO} {σ σ' : Sto} (h : Pick e σ σ') : Pick e (x :: σ) (x :: σ') := (h.cons x).trans (.swap _ _ _)
theorem Pick.mem {e : Addr × AO} {σ σ' : Sto} (h : Pick e σ σ') : e ∈ σ := h.mem_iff.mpr (.head _)
/-- a part of the store -/
def SubS (σ₁ σ₂ : Sto) : Prop := ∃ l, σ₂.Perm (σ₁ ++ l)
theorem SubS.refl {σ : Sto} : SubS σ σ := ⟨[], by rw [List.append_nil]⟩
theorem SubS.nil {σ : Sto} : SubS [] σ := ⟨σ, .refl _⟩
theorem SubS.drop {σ₁ σ₂ : Sto} {e : Addr × AO} (h : SubS σ₁ σ₂) : SubS σ₁ (e :: σ₂) := by
  obtain ⟨l, h⟩ := h
  exact ⟨e :: l, (h.cons e).trans (List.perm_middle.symm)⟩
theorem SubS.pick {σ₁ σ₂ σ₂' : Sto} {e : Addr × AO} (hp : Pick e σ₂ σ₂') (h : SubS σ₁ σ₂') : SubS (e :: σ₁) σ₂ := by
  obtain ⟨l, h⟩ := h
  exact ⟨l, hp.trans (h.cons e)⟩
theorem SubS.trans {σ₁ σ₂ σ₃ : Sto} (h : SubS σ₁ σ₂) (h' : SubS σ₂ σ₃) : SubS σ₁ σ₃ := by
  obtain ⟨l, h⟩ := h
  obtain ⟨l', h'⟩ := h'
  exact ⟨l ++ l', h'.trans ((h.append_right l').trans (by rw [List.append_assoc]))⟩
theorem SubS.mem {σ₁ σ₂ : Sto} (h : SubS σ₁ σ₂) {p : Addr × AO} (hp : p ∈ σ₁) : p ∈ σ₂ := by
  obtain ⟨l, h⟩ := h
  exact h.mem_iff.mpr (List.mem_append_left _ hp)
theorem SubS.app {l σ₁ σ₂ : Sto} (h : SubS σ₁ σ₂) : SubS (l ++ σ₁) (l ++ σ₂) := by
  obtain ⟨l', h⟩ := h
  exact ⟨l', by rw [List.append_assoc]; exact h.append_left l⟩
theorem Rel.subS {C : Cx} {ρ : Loc} {σ₁ σ₂ : Sto} {s : Shared} (h : Rel C ρ σ₂ s) (hs : SubS σ₁ σ₂) : Rel C ρ σ₁ s := by
  refine h.sub (fun p hp => hs.mem hp) ?_
  obtain ⟨l, hl⟩ := hs
  have := ((hl.map (·.1)).nodup_iff).mp h.nd
  rw [List.map_append] at this
  exact (List.nodup_append.mp this).1
theorem Rel.perm {C : Cx} {ρ : Loc} {σ₁ σ₂ : Sto} {s : Shared} (h : Rel C ρ σ₂ s) (hs : σ₂.Perm σ₁) : Rel C ρ σ₁ s :=
  h.sub (fun p hp => hs.mem_iff.mpr hp) (((hs.map (·.1)).nodup_iff).mp h.nd)
theorem Rel.updP {C : Cx} {ρ : Loc} {σ : Sto} {s : Shared} {a : Addr} {ao ao' : AO} (h : Rel C ρ ((a, ao) :: σ) s) {h' : Heap} {o' : Obj} (hs : Heap.SameBut a s.heap h') (ho : h'.get? a = some o') (hr : RO ao' o') (n : Nat) :
    Rel C ρ ((a, ao') :: σ) { s with heap := h', toks := n } := Rel.upd (pre := []) h hs ho hr n
theorem Rel.extP {C : Cx} {ρ : Loc} {σ : Sto} {s : Shared} {a : Addr} {ao : AO} (h : Rel C ρ ((a, ao) :: σ) s) {h' : Heap} (he : Heap.ExtBut a s.heap h') (n : Nat) : Rel C ρ σ { s with heap := h', toks := n } := Rel.extBut (pre := []) h he n
theorem AW.subS {α β : Type} {C : Cx} {E : Value → Shared → Prop} {ρ : Loc} {σ : Sto} {R : β → α → Prop} {t : Sem α} {Q : β → Loc → Sto → Prop} {σ' : Sto} (h : AW R C E t Q ρ σ') (hs : SubS σ' σ) : AW R C E t Q ρ σ := fun s hr => h s (hr.subS hs)
section
variable {C : Cx} {E : Value → Shared → Prop} {ρ : Loc} {σ : Sto} {env : Env} {pos : Pos} {Q : AV → Loc → Sto → Prop} {QB : Bool → Loc → Sto → Prop} {QF : AF → Loc → Sto → Prop}

-- typed operators
theorem o_mod_int {a b : Int} (hb : b ≠ 0) (h : Q (.int (Int.fmod a b)) ρ σ) : Op2 C E .Mod (.int a) (.int b) Q ρ σ := by
  rintro _ _ ⟨t, rfl⟩ ⟨u, rfl⟩ s hs
  exact mod_int' hb ⟨.int _, _, _, ⟨_, rfl⟩, hs.toks _, h⟩
theorem o_div_int {a b : Int} (hb : b ≠ 0) (hp : Builtin.divisionGoesByPylong a b = false) (h : Q (.int (Int.fdiv a b)) ρ σ) : Op2 C E .FloorDiv (.int a) (.int b) Q ρ σ := by
  rintro _ _ ⟨t, rfl⟩ ⟨u, rfl⟩ s hs
  exact floordiv_int hb ⟨.int _, _, _, ⟨_, rfl⟩, hs.toks _, h⟩ (.inl hp)
theorem o_pow_int {a n : Int} (h0 : 0 ≤ n) (h1 : n ≤ 1000000) (h2 : a.natAbs < 2 ^ 64) (h : Q (.int (a ^ n.toNat)) ρ σ) : Op2 C E .Pow (.int a) (.int n) Q ρ σ := by
  rintro _ _ ⟨t, rfl⟩ ⟨u, rfl⟩ s hs
  exact pow_int_small h0 h1 h2 ⟨.int _, _, _, ⟨_, rfl⟩, hs.toks _, h⟩
theorem o_add_str {x y : Str} (hsz : x.length + y.length ≤ sizeLine) (h : Q (.str (x ++ y)) ρ σ) : Op2 C E .Add (.str x) (.str y) Q ρ σ := by
  rintro _ _ ⟨t, rfl⟩ ⟨u, rfl⟩ s hs
  exact add_str (fun t' tk => ⟨.str _, _, _, ⟨_, rfl⟩, hs.toks _, h⟩) hsz
theorem u_neg_int {a : Int} (h : Q (.int (-a)) ρ σ) : A1 C E (unaryOp .USub) (.int a) Q ρ σ := by
  rintro _ ⟨t, rfl⟩ s hs
  exact neg_int ⟨.int _, _, _, ⟨_, rfl⟩, hs.toks _, h⟩
theorem c_lt_int {a b : Int} (h : Q (.bool (decide (a < b))) ρ σ) : Cmp2 C E .Lt (.int a) (.int b) Q ρ σ := by
  rintro _ _ ⟨t, rfl⟩ ⟨u, rfl⟩ s hs
  exact lt_int ⟨.bool _, _, _, rfl, hs, h⟩
theorem c_gt_int {a b : Int} (h : Q (.bool (decide (b < a))) ρ σ) : Cmp2 C E .Gt (.int a) (.int b) Q ρ σ := by
  rintro _ _ ⟨t, rfl⟩ ⟨u, rfl⟩ s hs
  exact gt_int ⟨.bool _, _, _, rfl, hs, h⟩
theorem c_ge_int {a b : Int} (h : Q (.bool (decide (b ≤ a))) ρ σ) : Cmp2 C E .GtE (.int a) (.int b) Q ρ σ := by
  rintro _ _ ⟨t, rfl⟩ ⟨u, rfl⟩ s hs
  exact ge_int ⟨.bool _, _, _, rfl, hs, h⟩
theorem c_eq_str {a b : Str} (h : Q (.bool (a == b)) ρ σ) : Cmp2 C E .Eq (.str a) (.str b) Q ρ σ := by
  rintro _ _ ⟨t, rfl⟩ ⟨u, rfl⟩ s hs
  exact eq_str ⟨.bool _, _, _, rfl, hs, h⟩
theorem RVs.one' {as : List AV} {a : AV} {vs : List Value} (h : RVs [a] vs) : ∃ v, vs = [v] ∧ RV a v := by cases h with | cons h1 h2 => cases h2; exact ⟨_, rfl, h1⟩
theorem RVs.two' {a b : AV} {vs : List Value} (h : RVs [a, b] vs) : ∃ v w, vs = [v, w] ∧ RV a v ∧ RV b w := by
  cases h with | cons h1 h2 => cases h2 with | cons h3 h4 => cases h4; exact ⟨_, _, rfl, h1, h3⟩
theorem RVs.three' {a b c : AV} {vs : List Value} (h : RVs [a, b, c] vs) : ∃ v w x, vs = [v, w, x] ∧ RV a v ∧ RV b w ∧ RV c x := by
  cases h with | cons h1 h2 => cases h2 with | cons h3 h4 => cases h4 with | cons h5 h6 => cases h6; exact ⟨_, _, _, rfl, h1, h3, h5⟩
theorem b_abs {a : Int} (h : Q (.int (if a < 0 then -a else a)) ρ σ) : ACall C E (.builtin "abs") [.int a] Q ρ σ := by
  intro vs hv s hs
  obtain ⟨_, rfl, t, rfl⟩ := RVs.one' (as := []) hv
  exact call_abs_int fun u tk => ⟨.int _, _, _, ⟨_, rfl⟩, hs.toks _, h⟩
theorem Rel.isList (hs : Rel C ρ σ s) {a : Addr} {xs : List AV} (hm : (a, AO.list xs) ∈ σ) : ∃ vs, RVs xs vs ∧ s.heap.IsList a vs.toArray := by
  obtain ⟨o, e, _, _, vs, n, r, rfl⟩ := hs.led _ hm
  exact ⟨vs, r, _, e, rfl, n, rfl⟩
theorem b_len_list {a : Addr} {xs : List AV} (hm : (a, AO.list xs) ∈ σ) (hx : xs.length ≤ sizeLine) (h : Q (.int xs.length) ρ σ) : ACall C E (.builtin "len") [.ref a] Q ρ σ := by
  intro vs hv s hs
  obtain ⟨_, rfl, rfl⟩ := RVs.one' (as := []) hv
  obtain ⟨ws, r, hl⟩ := hs.isList hm
  refine len_list hl (by rw [sizeLine_eq] at hx; rw [List.size_toArray, r.length]; omega) ?_
  rw [List.size_toArray, r.length]
  exact ⟨.int _, _, _, ⟨_, rfl⟩, hs.toks _, h⟩
theorem Rel.frame (hs : Rel C ρ σ s) : ∃ m news, Fr C.h₀ C.L s.heap m ∧ LocOk ρ m ∧ News C.h₀ C.L s.heap news ∧ (∀ p ∈ σ, ∃ o, (p.1, o) ∈ news ∧ RO p.2 o) := by
  obtain ⟨m, F, l⟩ := hs.fr
  refine ⟨m, σ.filterMap fun p => (s.heap.get? p.1).map fun o => (p.1, o), F, l, fun p hp => ?_, fun p hp => ?_⟩
  · obtain ⟨q, hq, e⟩ := List.mem_filterMap.mp hp
    obtain ⟨o, e1, e2, e3, _⟩ := hs.led q hq
    rw [e1] at e
    cases e
    exact ⟨e1, e2, e3⟩
  · obtain ⟨o, e1, e2, e3, r⟩ := hs.led p hp
    exact ⟨o, List.mem_filterMap.mpr ⟨p, hp, by rw [e1]; rfl⟩, r⟩
theorem Rel.back (hs : Rel C ρ σ s) {m : Str → Option Value} {news : List (Addr × Obj)} {h' : Heap} (hl : LocOk ρ m) (F : Fr C.h₀ C.L h' m) (N : News C.h₀ C.L h' news) (hm : ∀ p ∈ σ, ∃ o, (p.1, o) ∈ news ∧ RO p.2 o) (n : Nat) : Rel C ρ σ { s with heap := h', toks := n } := by
  obtain ⟨⟨h'', tk, e⟩, _, _, nd⟩ := hs
  subst e
  refine ⟨⟨h', n, rfl⟩, ⟨m, F, hl⟩, fun p hp => ?_, nd⟩
  obtain ⟨o, hn, r⟩ := hm p hp
  exact ⟨o, (N _ hn).1, (N _ hn).2.1, (N _ hn).2.2, r⟩
theorem b_startswith {x y : Str} (h : Q (.bool (Txt.startswith x y)) ρ σ) : ACall C E (.builtin "str.startswith") [.str x, .str y] Q ρ σ := by
  intro vs hv s hs
  obtain ⟨_, _, rfl, ⟨t, rfl⟩, ⟨u, rfl⟩⟩ := RVs.two' hv
  exact SC.startswith ⟨.bool _, _, _, rfl, hs, h⟩
theorem b_endswith {x y : Str} (h : Q (.bool (Txt.endswith x y)) ρ σ) : ACall C E (.builtin "str.endswith") [.str x, .str y] Q ρ σ := by
  intro vs hv s hs
  obtain ⟨_, _, rfl, ⟨t, rfl⟩, ⟨u, rfl⟩⟩ := RVs.two' hv
  exact SC.endswith ⟨.bool _, _, _, rfl, hs, h⟩
theorem m_startswith {x : Str} {pl : Sem Bool} {P : Value → List AV → Loc → Sto → Prop} (h : P (.builtin "str.startswith") [.str x] ρ σ) : AMeth C E (.str x) (Str.ofString "startswith") pl P ρ σ := by
  rintro _ ⟨t, rfl⟩ s hs
  exact GM.startswith ⟨[.str x], _, _, .one ⟨_, rfl⟩, hs, h⟩
theorem m_endswith {x : Str} {pl : Sem Bool} {P : Value → List AV → Loc → Sto → Prop} (h : P (.builtin "str.endswith") [.str x] ρ σ) : AMeth C E (.str x) (Str.ofString "endswith") pl P ρ σ := by
  rintro _ ⟨t, rfl⟩ s hs
  exact GM.endswith ⟨[.str x], _, _, .one ⟨_, rfl⟩, hs, h⟩
theorem m_join {x : Str} {pl : Sem Bool} {P : Value → List AV → Loc → Sto → Prop} (h : P (.builtin "str.join") [.str x] ρ σ) : AMeth C E (.str x) (Str.ofString "join") pl P ρ σ := by
  rintro _ ⟨t, rfl⟩ s hs
  exact GM.join ⟨[.str x], _, _, .one ⟨_, rfl⟩, hs, h⟩
theorem m_append {a : Addr} {xs : List AV} {pl : Sem Bool} {P : Value → List AV → Loc → Sto → Prop} (hm : (a, AO.list xs) ∈ σ) (h : P (.builtin "list.append") [.ref a] ρ σ) : AMeth C E (.ref a) (Str.ofString "append") pl P ρ σ := by
  rintro _ rfl s hs
  obtain ⟨o, e, _, _, vs, n, r, rfl⟩ := hs.led _ hm
  exact Calls.getMethod_list_append e rfl rfl ⟨[.ref a], _, _, .one rfl, hs, h⟩
theorem b_append {a : Addr} {xs : List AV} {v : AV} {σ' : Sto} (hσ : Pick (a, .list xs) σ σ') (hx : xs.length ≤ sizeLine) (h : Q .none ρ ((a, .list (xs ++ [v])) :: σ')) : ACall C E (.builtin "list.append") [.ref a, v] Q ρ σ := by
  intro vs hv s hs
  obtain ⟨_, w, rfl, rfl, rw'⟩ := RVs.two' hv
  have hs := hs.perm hσ
  obtain ⟨o, e, _, _, us, n, r, rfl⟩ := hs.led (a, .list xs) (.head _)
  refine append_at e (fun h' hsb hg => ⟨.none, _, _, rfl, hs.updP hsb hg (ao' := .list (xs ++ [v])) ⟨us ++ [w], n + 1, r.append (.one rw'), ?_⟩ s.toks, h⟩) (by rw [List.size_toArray, r.length]; exact hx)
  rw [List.push_toArray]
/-- join of a list of texts -/
theorem RVs.strs {xs : List Str} {vs : List Value} (h : RVs (xs.map AV.str) vs) : ∃ l : List (Str × Tok), vs = strValues l ∧ l.map (·.1) = xs := by
  induction xs generalizing vs with
  | nil => cases h; exact ⟨[], rfl, rfl⟩
  | cons x xs ih =>
    cases h with
    | cons h1 h2 =>
      obtain ⟨t, rfl⟩ := h1
      obtain ⟨l, rfl, rfl⟩ := ih h2
      exact ⟨(x, t) :: l, rfl, rfl⟩
theorem b_join {x : Str} {a : Addr} {xs : List Str} (hm : (a, AO.list (xs.map AV.str)) ∈ σ) (ho : JoinOk x xs = true) (h : Q (.str (Txt.join x xs)) ρ σ) : ACall C E (.builtin "str.join") [.str x, .ref a] Q ρ σ := by
  intro vs hv s hs
  obtain ⟨_, _, rfl, ⟨t, rfl⟩, rfl⟩ := RVs.two' hv
  obtain ⟨ws, r, hl⟩ := hs.isList hm
  obtain ⟨l, rfl, el⟩ := r.strs
  exact SC.join hl el ho fun t' k => ⟨.str _, _, _, ⟨_, rfl⟩, hs.toks _, h⟩
theorem s_item_str {value slice : Expr} {x : Str} {i : Int} (h1 : -(x.length : Int) ≤ i) (h2 : i < x.length) (hx : x.length ≤ sizeLine) (h : Q (.str (Txt.item x i)) ρ σ)
    (hsl : ∀ t u, subscripted slice false (.str x t) (.int i u) = operate [.str x t, .int i u] (getItem (.str x t) (.int i u)) := by intro _ _; with_unfolding_all rfl)
    (ht : ∀ t r, letTemporaryGo value (.str x t) r = pure () := by intro _ _; with_unfolding_all rfl) : A2 C E (subscriptTail value slice) (.str x) (.int i) Q ρ σ := by
  rintro _ _ ⟨t, rfl⟩ ⟨u, rfl⟩ s hs
  refine item_str ?_ h1 h2 (fun _ => ⟨.str _, _, _, ⟨_, rfl⟩, hs.toks _, h⟩) (hsl _ _) (ht _)
  rw [sizeLine_eq] at hx
  unfold fitsSsize
  simp only [Bool.not_eq_true', Bool.or_eq_false_iff, decide_eq_false_iff_not]
  omega
/-- a slice of a value -/
def ASl (C : Cx) (E : Value → Shared → Prop) (value slice : Expr) (o a b : AV) (Q : AV → Loc → Sto → Prop) (ρ : Loc) (σ : Sto) : Prop :=
  ∀ vo va vb s, RV o vo → RV a va → RV b vb → Rel C ρ σ s → wpAny (model C.prog C.w) C.A (subscriptTail value slice vo (.ref s.heap.objs.size)) (fun r s' => ∃ ar ρ' σ', RV ar r ∧ Rel C ρ' σ' s' ∧ Q ar ρ' σ') E
    { s with heap := s.heap.push { cls := .type "slice", data := .fields #[va, vb, .none] } }
theorem aw_SubSlice {value : Expr} {l u : Option Expr} {p : Pos} (h : AW RV C E (eval value env) (fun o ρ₁ σ₁ => AW RV C E (evalPart l env) (fun a ρ₂ σ₂ => AW RV C E (evalPart u env) (fun b ρ₃ σ₃ => ASl C E value (.Slice l u none p) o a b Q ρ₃ σ₃) ρ₂ σ₂) ρ₁ σ₁) ρ σ) :
    AW RV C E (eval (.Subscript value (.Slice l u none p) pos) env) Q ρ σ :=
  fun _ hs => Subscript_ (h.lift1 hs fun vo _ _ _ _ ro hs₁ h₁ => wpAny_Slice (h₁.lift1 hs₁ fun va _ _ _ _ ra hs₂ h₂ => h₂.lift1 hs₂ fun vb _ _ _ _ rb hs₃ h₃ => wpAny_pure (h₃ vo va vb _ ro ra rb hs₃)))
theorem sl_str_ns {value slice : Expr} {x : Str} {j : Int} (hx : x.length ≤ sizeLine) (h : Q (.str (Txt.slice x none (some j))) ρ σ)
    (hsl : ∀ t r, subscripted slice false (.str x t) (.ref r) = operate [.ref r, .str x t] (getItem (.str x t) (.ref r)) := by intro _ _; with_unfolding_all rfl)
    (ht : ∀ t r, letTemporaryGo value (.str x t) r = pure () := by intro _ _; with_unfolding_all rfl) : ASl C E value slice (.str x) .none (.int j) Q ρ σ := by
  rintro _ _ _ s ⟨t, rfl⟩ rfl ⟨u, rfl⟩ hs
  obtain ⟨m, news, F, hl, N, hm⟩ := hs.frame
  exact slice_strN_ns F N (fun h' t' k F' N' => ⟨.str _, _, _, ⟨_, rfl⟩, hs.back hl F' N' hm _, h⟩) (hsl _ _) (ht _) hx
theorem sl_str_sn {value slice : Expr} {x : Str} {i : Int} (hx : x.length ≤ sizeLine) (h : Q (.str (Txt.slice x (some i) none)) ρ σ)
    (hsl : ∀ t r, subscripted slice false (.str x t) (.ref r) = operate [.ref r, .str x t] (getItem (.str x t) (.ref r)) := by intro _ _; with_unfolding_all rfl)
    (ht : ∀ t r, letTemporaryGo value (.str x t) r = pure () := by intro _ _; with_unfolding_all rfl) : ASl C E value slice (.str x) (.int i) .none Q ρ σ := by
  rintro _ _ _ s ⟨t, rfl⟩ ⟨u, rfl⟩ rfl hs
  obtain ⟨m, news, F, hl, N, hm⟩ := hs.frame
  exact slice_strN_sn F N (fun h' t' k F' N' => ⟨.str _, _, _, ⟨_, rfl⟩, hs.back hl F' N' hm _, h⟩) (hsl _ _) (ht _) hx
-- ranges
abbrev rangeO (a b : Int) : AO := .pred fun o => ∃ t u v, o = { cls := .type "range", data := .fields #[.int a t, .int b u, .int 1 v] }
theorem b_range1 {n : Int} (h : ∀ r, Q (.ref r) ρ ((r, rangeO 0 n) :: σ)) : ACall C E (.type "range") [.int n] Q ρ σ := by
  intro vs hv s hs
  obtain ⟨_, rfl, t, rfl⟩ := RVs.one' (as := []) hv
  exact call_range_1 ⟨.ref _, _, _, rfl, hs.push (ao := rangeO 0 n) ⟨_, _, _, rfl⟩ rfl _, h _⟩
end

-- loops
/-- what an exception within a loop's turn meets -/
abbrev LE (C : Cx) (env : Env) (E : Value → Shared → Prop) : Value → Shared → Prop := notedBy (model C.prog C.w) C.A env (cameBackBy (model C.prog C.w) C.A env E)
def RL (C : Cx) (env : Env) (E : Value → Shared → Prop) (QF : AF → Loc → Sto → Prop) (r : Result) (s' : Shared) : Prop := match r with
  | .ok f => ∃ f' ρ' σ', RF f' f ∧ Rel C ρ' σ' s' ∧ QF f' ρ' σ'
  | .error e => cameBackBy (model C.prog C.w) C.A env E e s'
def AWhile (C : Cx) (E : Value → Shared → Prop) (test : Expr) (body : List Stmt) (env : Env) (QF : AF → Loc → Sto → Prop) (ρ : Loc) (σ : Sto) : Prop :=
  ∀ s, Rel C ρ σ s → codeAny (model C.prog C.w) C.A (.whileLoop test body [] env) (RL C env E QF) s
def AFor (C : Cx) (E : Value → Shared → Prop) (target : Expr) (I : Addr) (body : List Stmt) (env : Env) (QF : AF → Loc → Sto → Prop) (ρ : Loc) (σ : Sto) : Prop :=
  ∀ s, Rel C ρ σ s → codeAny (model C.prog C.w) C.A (.forLoop target (.ref I) body [] env) (RL C env E QF) s
/-- what a turn's end asks: go on, or leave -/
def Turn (QF : AF → Loc → Sto → Prop) (again : Loc → Sto → Prop) : AF → Loc → Sto → Prop := fun f ρ σ => match f with
  | .next => again ρ σ
  | .cont => again ρ σ
  | .brk => QF .next ρ σ
  | .ret v => QF (.ret v) ρ σ
section
variable {C : Cx} {E : Value → Shared → Prop} {ρ : Loc} {σ : Sto} {env : Env} {pos : Pos} {QF : AF → Loc → Sto → Prop} {test : Expr} {body : List Stmt} {target : Expr} {I : Addr}
theorem ex_while (h : AWhile C E test body env QF ρ σ) : AW RF C E (exec (.While test body [] pos) env) QF ρ σ := by
  intro s hs
  refine wpAny_While (codeAny_mono (h s hs) fun r s' hr => ?_)
  cases r with
  | ok f => exact hr
  | error e => exact hr
theorem AWhile.loc {ρ' : Loc} (h : AWhile C E test body env QF ρ' σ) (hs : ∀ x v, ρ'.lookup x = some v → ρ.lookup x = some v) : AWhile C E test body env QF ρ σ := fun s hr => h s (hr.loc hs)
theorem AWhile.sublist {σ' : Sto} (h : AWhile C E test body env QF ρ σ') (hs : List.Sublist σ' σ) : AWhile C E test body env QF ρ σ :=
  fun s hr => h s (hr.sub (fun _ hp => hs.subset hp) ((hs.map _).nodup hr.nd))
theorem AWhile.sub {σ' : Sto} (h : AWhile C E test body env QF ρ σ') (hs : ∀ p ∈ σ', p ∈ σ) (nd : (σ.map (·.1)).Nodup → (σ'.map (·.1)).Nodup) : AWhile C E test body env QF ρ σ :=
  fun s hr => h s (hr.sub hs (nd hr.nd))
theorem wh_turn (h : AW (Eq (α := Bool)) C (LE C env E) (isTrue test env (eval test env)) (fun b ρ₁ σ₁ => if b = true then AW RF C (LE C env E) (execs body env) (Turn QF (AWhile C E test body env QF)) ρ₁ σ₁ else QF .next ρ₁ σ₁) ρ σ) :
    AWhile C E test body env QF ρ σ := by
  intro s hs
  refine codeAny_loop' rfl (fun _ s' => s' = s) (fun n s' e => ?_) 0 rfl
  subst e
  show wpAny _ C.A ((whileTurn test body [] env).onRaise (fun x => do noteFrame x env; theTreesLotGoes x)) _ _ s'
  refine wpAny_noted ?_
  simp only [whileTurn]
  refine wpAny_bind (h.lift1 hs fun b b' ρ₁ σ₁ s₁ e hs₁ h₁ => ?_)
  subst e
  cases b' with
  | false =>
    simp only [Bool.false_eq_true, if_false] at h₁ ⊢
    exact wpAny_bind (wpAny_execs_nil (wpAny_pure ⟨.next, _, _, rfl, hs₁, h₁⟩))
  | true =>
    simp only [if_true] at h₁ ⊢
    refine wpAny_bind (h₁.lift1 hs₁ fun f f' ρ₂ σ₂ s₂ rf hs₂ h₂ => ?_)
    cases f' with
    | next => cases rf; exact wpAny_pure (.inr ⟨rfl, h₂ _ hs₂⟩)
    | cont => cases rf; exact wpAny_pure (.inr ⟨rfl, h₂ _ hs₂⟩)
    | brk => cases rf; exact wpAny_pure ⟨.next, _, _, rfl, hs₂, h₂⟩
    | ret a => obtain ⟨v, rfl, rv⟩ := rf; exact wpAny_pure ⟨.ret a, _, _, ⟨v, rfl, rv⟩, hs₂, h₂⟩
theorem AFor.loc {ρ' : Loc} (h : AFor C E target I body env QF ρ' σ) (hs : ∀ x v, ρ'.lookup x = some v → ρ.lookup x = some v) : AFor C E target I body env QF ρ σ := fun s hr => h s (hr.loc hs)
theorem AFor.sub {σ' : Sto} (h : AFor C E target I body env QF ρ σ') (hs : ∀ p ∈ σ', p ∈ σ) (nd : (σ.map (·.1)).Nodup → (σ'.map (·.1)).Nodup) : AFor C E target I body env QF ρ σ :=
  fun s hr => h s (hr.sub hs (nd hr.nd))
theorem AFor.sublist {σ' : Sto} (h : AFor C E target I body env QF ρ σ') (hs : List.Sublist σ' σ) : AFor C E target I body env QF ρ σ :=
  h.sub (fun _ hp => hs.subset hp) fun nd => (hs.map _).nodup nd
/-- the iterator at I gives v, then holds ao' -/
def NxI (C : Cx) (I : Addr) (ao : AO) (σ' : Sto) (v : AV) (ao' : AO) : Prop :=
  ∀ ρ s (E : Value → Shared → Prop) (Q : Option Value → Shared → Prop), Rel C ρ ((I, ao) :: σ') s → (∀ vv s', RV v vv → Rel C ρ ((I, ao') :: σ') s' → Q (some vv) s') → wpAny (model C.prog C.w) C.A (pyNext (.ref I)) Q E s
def NxE (C : Cx) (I : Addr) (ao : AO) (σ' : Sto) : Prop :=
  ∀ ρ s (E : Value → Shared → Prop) (Q : Option Value → Shared → Prop), Rel C ρ ((I, ao) :: σ') s → (∀ s', Rel C ρ σ' s' → Q none s') → wpAny (model C.prog C.w) C.A (pyNext (.ref I)) Q E s
/-- the iterator is its own iterator -/
def NxS (C : Cx) (I : Addr) (ao : AO) : Prop :=
  ∀ o, RO ao o → ∀ s (E : Value → Shared → Prop) (Q : Value → Shared → Prop), s.heap.get? I = some o → Q (.ref I) s → wpAny (model C.prog C.w) C.A (pyIter (.ref I)) Q E s
/-- assigning to a target -/
def AAs (C : Cx) (E : Value → Shared → Prop) (env : Env) (target : Expr) (I : Addr) (v : AV) (Q : Loc → Sto → Prop) (ρ : Loc) (σ : Sto) : Prop :=
  ∀ vv, RV v vv → AW (Eq (α := Unit)) C E (do letOwnedTupleGo target (.ref I) vv; assign target env vv) (fun _ => Q) ρ σ
theorem as_name {x : Str} {px : Pos} {v : AV} {Q : Loc → Sto → Prop} (h : ASt C E env x v Q ρ σ) : AAs C E env (.Name x px) I v Q ρ σ := by
  intro vv rv s hs
  refine wpAny_bind (wpAny_pure ?_)
  exact wpAny_assign_Name (h vv rv s hs)
theorem for_item {σ' : Sto} {ao ao' : AO} {v : AV} (hσ : Pick (I, ao) σ σ') (nx : NxI C I ao σ' v ao')
    (h : AAs C (LE C env E) env target I v (fun ρ₁ σ₁ => AW RF C (LE C env E) (execs body env) (Turn QF (AFor C E target I body env QF)) ρ₁ σ₁) ρ ((I, ao') :: σ')) :
    AFor C E target I body env QF ρ σ := by
  intro s hs
  have hs := hs.perm hσ
  refine codeAny_loop' rfl (fun _ s' => s' = s) (fun n s' e => ?_) 0 rfl
  subst e
  show wpAny _ C.A ((forTurn target (.ref I) body [] env).onRaise (fun x => do noteFrame x env; theTreesLotGoes x)) _ _ s'
  refine wpAny_noted ?_
  simp only [forTurn]
  refine wpAny_bind (wpAny_standAt (wpAny_bind (wpAny_onRaise (nx ρ s' _ _ hs fun vv s₁ rv hs₁ => ?_))))
  have h₁ := h vv rv s₁ hs₁
  have h₂ : wpAny (model C.prog C.w) C.A (do letOwnedTupleGo target (.ref I) vv; assign target env vv) (fun _ s₂ => wpAny (model C.prog C.w) C.A (do
      match ← execs body env with
      | .next | .cont => again (.forLoop target (.ref I) body [] env)
      | .brk => pure (.done .next)
      | .ret v => pure (.done (.ret v))) (fun fin s'' => match fin with
        | .done f => RL C env E QF (.ok f) s''
        | .again c' => (c' = Code.forLoop target (.ref I) body [] env ∧ ∃ m, m < n ∧ s'' = s') ∨ (c'.quiet = true ∧ codeAny (model C.prog C.w) C.A c' (RL C env E QF) s'')) (LE C env E) s₂) (LE C env E) s₁ := by
    refine wpAny_mono h₁ (fun _ s₂ ⟨_, ρ₂, σ₂, _, hs₂, q⟩ => ?_) fun _ _ e => e
    refine wpAny_bind (q.lift1 hs₂ fun f f' ρ₃ σ₃ s₃ rf hs₃ h₃ => ?_)
    cases f' with
    | next => cases rf; exact wpAny_pure (.inr ⟨rfl, h₃ _ hs₃⟩)
    | cont => cases rf; exact wpAny_pure (.inr ⟨rfl, h₃ _ hs₃⟩)
    | brk => cases rf; exact wpAny_pure ⟨.next, _, _, rfl, hs₃, h₃⟩
    | ret a => obtain ⟨v, rfl, rv⟩ := rf; exact wpAny_pure ⟨.ret a, _, _, ⟨v, rfl, rv⟩, hs₃, h₃⟩
  have h₃ := wpAny_bind h₂
  rw [bind_assoc] at h₃
  exact wpAny_mono h₃ (fun fin s' hf => hf) fun _ _ e => e
theorem for_end {σ' : Sto} {ao : AO} (hσ : Pick (I, ao) σ σ') (nx : NxE C I ao σ') (h : QF .next ρ σ') : AFor C E target I body env QF ρ σ := by
  intro s hs
  have hs := hs.perm hσ
  refine codeAny_loop' rfl (fun _ s' => s' = s) (fun n s' e => ?_) 0 rfl
  subst e
  show wpAny _ C.A ((forTurn target (.ref I) body [] env).onRaise (fun x => do noteFrame x env; theTreesLotGoes x)) _ _ s'
  refine wpAny_noted ?_
  simp only [forTurn]
  refine wpAny_bind (wpAny_standAt (wpAny_bind (wpAny_onRaise (nx ρ s' _ _ hs fun s₁ hs₁ => wpAny_pure (.inr ⟨rfl, codeAny_block (wpAny_execs_nil ⟨.next, _, _, rfl, hs₁, h⟩)⟩)))))
/-- making the iterator -/
def AIt (C : Cx) (E : Value → Shared → Prop) (a : AV) (P : Addr → Loc → Sto → Prop) (ρ : Loc) (σ : Sto) : Prop :=
  ∀ v, RV a v → ∀ s, Rel C ρ σ s → wpAny (model C.prog C.w) C.A (pyIter v) (fun it s' => ∃ I ρ' σ', it = .ref I ∧ Rel C ρ' σ' s' ∧ P I ρ' σ') E s
theorem ex_for {iter : Expr} (h : AW RV C E (eval iter env) (fun a ρ₁ σ₁ => AIt C E a (fun I ρ₂ σ₂ => AFor C E target I body env QF ρ₂ σ₂) ρ₁ σ₁) ρ σ) (hf : ∀ x, foldedSetIterable iter env x = pure x := by intro _; rfl) :
    AW RF C E (exec (.For target iter body [] pos) env) QF ρ σ := by
  intro s hs
  refine wpAny_For (h.lift1 hs fun v a _ _ _ rv hs₁ h₁ => wpAny_mono (h₁ v rv _ hs₁) (fun it s' ⟨I, ρ', σ', e, hs₂, h₂⟩ => ?_) fun _ _ e => e) hf
  subst e
  refine codeAny_mono (h₂ _ hs₂) fun r s' hr => ?_
  cases r with
  | ok f => exact hr
  | error e => exact hr
abbrev literO (ax : Addr) (i : Nat) : AO := .pred fun o => o.cls = .type "list_iterator" ∧ o.data = .fields #[.ref ax, .int i 0]
theorem it_list {a : Addr} {xs : List AV} {P : Addr → Loc → Sto → Prop} (hm : (a, AO.list xs) ∈ σ) (h : ∀ I, P I ρ ((I, literO a 0) :: σ)) : AIt C E (.ref a) P ρ σ := by
  rintro _ rfl s hs
  obtain ⟨vs, rv, hv⟩ := hs.isList hm
  exact wpAny_pyIter_list hv ⟨_, _, _, rfl, hs.push (ao := literO a 0) ⟨rfl, rfl⟩ rfl s.toks, h _⟩
theorem nx_list {ax : Addr} {i : Nat} {xs : List AV} {v : AV} {σ' : Sto} (hm : (ax, AO.list xs) ∈ σ') (hv : xs[i]? = some v) : NxI C I (literO ax i) σ' v (literO ax (i + 1)) := by
  intro ρ s E Q hs k
  obtain ⟨vs, rv, hl⟩ := (hs.appL (pre := [])).isList hm
  obtain ⟨vv, e, r⟩ := rv.get hv
  obtain ⟨o, ho, _, _, hc, hd⟩ := hs.led (I, literO ax i) (.head _)
  refine wpAny_pyNext_list_item (l := ax) (i := i) ⟨o, ho, hc, hd⟩ hl (by simpa using e) fun h' hi hsb => ?_
  obtain ⟨o', ho', hc', hd'⟩ := hi
  exact k vv _ r (hs.updP hsb ho' (ao' := literO ax (i + 1)) ⟨hc', hd'⟩ s.toks)
theorem nx_list_end {ax : Addr} {i : Nat} {xs : List AV} {σ' : Sto} (hh : C.A.handled = none) (hm : (ax, AO.list xs) ∈ σ') (hv : xs.length ≤ i) : NxE C I (literO ax i) σ' := by
  intro ρ s E Q hs k
  obtain ⟨vs, rv, hl⟩ := (hs.appL (pre := [])).isList hm
  obtain ⟨o, ho, _, _, hc, hd⟩ := hs.led (I, literO ax i) (.head _)
  refine wpAny_pyNext_list_end hh (l := ax) (i := i) ⟨o, ho, hc, hd⟩ hl (by simp [rv.length]; exact hv) fun h' he => ?_
  exact k _ (hs.extP he s.toks)
/-- a list of the heap below -/
def BaseL (C : Cx) (a : Addr) (xs : List AV) : Prop := ∃ vs, RVs xs vs ∧ C.h₀.IsList a vs.toArray
theorem Rel.baseL {s : Shared} (hs : Rel C ρ σ s) {a : Addr} {xs : List AV} (hb : BaseL C a xs) : ∃ vs, RVs xs vs ∧ s.heap.IsList a vs.toArray := by
  obtain ⟨vs, rv, hl⟩ := hb
  obtain ⟨m, F, _⟩ := hs.fr
  exact ⟨vs, rv, hl.at fun o e => F.keep a o e⟩
theorem it_base {a : Addr} {xs : List AV} {P : Addr → Loc → Sto → Prop} (hb : BaseL C a xs) (h : ∀ I, P I ρ ((I, literO a 0) :: σ)) : AIt C E (.ref a) P ρ σ := by
  rintro _ rfl s hs
  obtain ⟨vs, rv, hv⟩ := hs.baseL hb
  exact wpAny_pyIter_list hv ⟨_, _, _, rfl, hs.push (ao := literO a 0) ⟨rfl, rfl⟩ rfl s.toks, h _⟩
theorem nx_base {ax : Addr} {i : Nat} {xs : List AV} {v : AV} {σ' : Sto} (hb : BaseL C ax xs) (hv : xs[i]? = some v) : NxI C I (literO ax i) σ' v (literO ax (i + 1)) := by
  intro ρ s E Q hs k
  obtain ⟨vs, rv, hl⟩ := hs.baseL hb
  obtain ⟨vv, e, r⟩ := rv.get hv
  obtain ⟨o, ho, _, _, hc, hd⟩ := hs.led (I, literO ax i) (.head _)
  refine wpAny_pyNext_list_item (l := ax) (i := i) ⟨o, ho, hc, hd⟩ hl (by simpa using e) fun h' hi hsb => ?_
  obtain ⟨o', ho', hc', hd'⟩ := hi
  exact k vv _ r (hs.updP hsb ho' (ao' := literO ax (i + 1)) ⟨hc', hd'⟩ s.toks)
theorem nx_base_end {ax : Addr} {i : Nat} {xs : List AV} {σ' : Sto} (hh : C.A.handled = none) (hb : BaseL C ax xs) (hv : xs.length ≤ i) : NxE C I (literO ax i) σ' := by
  intro ρ s E Q hs k
  obtain ⟨vs, rv, hl⟩ := hs.baseL hb
  obtain ⟨o, ho, _, _, hc, hd⟩ := hs.led (I, literO ax i) (.head _)
  refine wpAny_pyNext_list_end hh (l := ax) (i := i) ⟨o, ho, hc, hd⟩ hl (by simp [rv.length]; exact hv) fun h' he => ?_
  exact k _ (hs.extP he s.toks)
abbrev riterO (x left : Int) : AO := .pred fun o => o = { cls := .type "range_iterator", data := .fields #[rawInt x, rawInt left, rawInt 1] }
theorem it_range {a : Addr} {x y : Int} {P : Addr → Loc → Sto → Prop} (hm : (a, rangeO x y) ∈ σ) (hs1 : Builtin.Range.small x y 1 = true) (h : ∀ I, P I ρ ((I, riterO x (if x < y then y - x else 0)) :: σ)) : AIt C E (.ref a) P ρ σ := by
  rintro _ rfl s hs
  obtain ⟨o, e, _, _, t, u, v, rfl⟩ := hs.led _ hm
  refine wpAny_pyIter_range (r := a) (a := x) (b := y) (c := 1) e hs1 ⟨_, _, _, rfl, hs.push (ao := riterO x (if x < y then y - x else 0)) ?_ rfl s.toks, h _⟩
  rw [rangeSize_one]; rfl
theorem nx_range {x left : Int} {σ' : Sto} (hl : 0 < left) : NxI C I (riterO x left) σ' (.int x) (riterO (x + 1) (left - 1)) := by
  intro ρ s E Q hs k
  obtain ⟨o, ho, _, _, e⟩ := hs.led (I, riterO x left) (.head _)
  subst e
  refine wpAny_pyNext_range_item (it := I) (x := x) (left := left) (step := 1) ho hl fun h' hi hsb => ?_
  exact k _ _ ⟨_, rfl⟩ (hs.updP hsb hi (ao' := riterO (x + 1) (left - 1)) rfl _)
theorem nx_range_end {x left : Int} {σ' : Sto} (hh : C.A.handled = none) (hl : left ≤ 0) : NxE C I (riterO x left) σ' := by
  intro ρ s E Q hs k
  obtain ⟨o, ho, _, _, e⟩ := hs.led (I, riterO x left) (.head _)
  subst e
  exact wpAny_pyNext_range_end (it := I) (x := x) (left := left) (step := 1) hh ho hl fun h' he => k _ (hs.extP he s.toks)
theorem ns_list {ax : Addr} {i : Nat} : NxS C I (literO ax i) := fun o ho s E Q e hq => wpAny_pyIter_listiter (l := ax) (i := i) ⟨o, e, ho.1, ho.2⟩ hq
theorem ns_range {x left : Int} : NxS C I (riterO x left) := fun o ho s E Q e hq => by
  have ho' : o = _ := ho
  subst ho'
  exact wpAny_pyIter_rangeiter (x := x) (left := left) (step := 1) e hq
theorem AFor.subS {σ' : Sto} (h : AFor C E target I body env QF ρ σ') (hs : SubS σ' σ) : AFor C E target I body env QF ρ σ := fun s hr => h s (hr.subS hs)
theorem AWhile.subS {σ' : Sto} (h : AWhile C E test body env QF ρ σ') (hs : SubS σ' σ) : AWhile C E test body env QF ρ σ := fun s hr => h s (hr.subS hs)
end
end Mine
namespace Mine
open PySem PySem.W PySem.Spec PySem.Calls PyProof.Rows

-- the defs of a program's text
def fnDef (p : Program) (n : String) : Option (Arguments × List Stmt × Scope) := p.main.body.findSome? fun st => match st with
  | .FunctionDef m a b _ _ _ sc _ _ _ => if m == Str.ofString n then some (a, b, sc) else none
  | _ => none
def fnBody (p : Program) (n : String) : List Stmt := match fnDef p n with | some (_, b, _) => b | none => []
def fnScope (p : Program) (n : String) : Scope := match fnDef p n with | some (_, _, sc) => sc | none => default
def fnArgs (p : Program) (n : String) : Arguments := match fnDef p n with | some (a, _, _) => a | none => default

def Cx.callee (C : Cx) (env env' : Env) (g : Heap) (L' : Addr) : Cx := { C with A := C.A.deeper env', A₀ := C.A, outer := env :: C.outer, h₀ := g, L := L' }
/-- what an exception meets that leaves a def -/
abbrev CE (C : Cx) (env' : Env) (E : Value → Shared → Prop) : Value → Shared → Prop := fun e s' => wpAny (model C.prog C.w) (C.A.deeper env') (leaving env' e) (fun _ s'' => E e s'') E s'
def AF.val : AF → AV
  | .ret v => v
  | _ => .none

theorem lk_mem {β : Type} {y : Str} {v : β} : ∀ {l : List (Str × β)}, l.lookup y = some v → (y, v) ∈ l
  | [], h => by simp at h
  | (a, b) :: r, h => by
    rw [List.lookup_cons] at h
    by_cases e : y = a
    · subst e; simp at h; subst h; exact .head _
    · simp only [beq_eq_false_iff_ne.mpr e] at h; exact .tail _ (lk_mem h)
theorem lk_nd {β : Type} {y : Str} {v : β} : ∀ {l : List (Str × β)}, (l.map (·.1)).Nodup → (y, v) ∈ l → l.lookup y = some v
  | (a, b) :: r, hn, h => by
    rw [List.map_cons, List.nodup_cons] at hn
    rw [List.lookup_cons]
    rcases List.mem_cons.mp h with e | h
    · cases e; simp
    · have : y ≠ a := fun e => hn.1 (e ▸ List.mem_map.mpr ⟨_, h, rfl⟩)
      simp only [beq_eq_false_iff_ne.mpr this]
      exact lk_nd hn.2 h
theorem zip_keys : ∀ (names : List Str) (vs : List Value), names.Nodup → ((names.zip vs).map (·.1)).Nodup
  | [], vs, _ => by simp
  | n :: r, [], _ => by simp
  | n :: r, v :: vs, hnd => by
    rw [List.zip_cons_cons, List.map_cons, List.nodup_cons]
    rw [List.nodup_cons] at hnd
    refine ⟨fun hm => ?_, zip_keys r vs hnd.2⟩
    obtain ⟨p, hp, e⟩ := List.mem_map.mp hm
    have e' : p.1 = n := e
    exact hnd.1 (e' ▸ (List.of_mem_zip hp).1)
theorem zip_mem : ∀ {names : List Str} {as : List AV} {vs : List Value}, RVs as vs → ∀ {x : Str} {a : AV}, (x, a) ∈ names.zip as → ∃ v, (x, v) ∈ names.zip vs ∧ RV a v
  | [], _, _, _, _, _, h => by simp at h
  | n :: r, _, _, .nil, _, _, h => by simp at h
  | n :: r, _, _, .cons h1 h2, x, a, h => by
    rw [List.zip_cons_cons] at h
    rcases List.mem_cons.mp h with e | h
    · cases e; exact ⟨_, .head _, h1⟩
    · obtain ⟨v, hv, rv⟩ := zip_mem h2 h
      exact ⟨v, .tail _ hv, rv⟩
theorem lookup_zip_rev {names : List Str} {as : List AV} {vs : List Value} (hn : names.Nodup) (h : RVs as vs) : LocOk (names.zip as) (fun y => (names.zip vs).reverse.lookup y) := by
  intro x a hx
  obtain ⟨v, hv, rv⟩ := zip_mem h (lk_mem hx)
  refine ⟨v, lk_nd ?_ (List.mem_reverse.mpr hv), rv⟩
  rw [List.map_reverse]
  exact (List.reverse_perm _).nodup_iff.mpr (zip_keys names vs hn)

section
variable {C : Cx} {E : Value → Shared → Prop} {ρ : Loc} {σ : Sto} {env : Env} {pos : Pos} {Q : AV → Loc → Sto → Prop} {n : Nat}

theorem Cx.Ok.callee {env env' : Env} {n : Nat} {g : Heap} {L' : Addr} {s : Shared} (O : C.Ok env (n + 1)) (B' : Below C.A C.base (env :: C.outer) g) (st : C.h₀.StaysIn g) (hf' : env'.frame = some L') (hk' : env'.scope.kind = .function) : (C.callee env env' g L').Ok env' n where
  B := B'
  X := O.X.keeps st
  T := O.T.keeps st
  hA := Around.frames_deeper O.hA
  hf := hf'
  hk := hk'
  hh := O.hh
  depth := by have := O.depth; show C.A.depth + 1 + n < recursionLimit; omega
  units := by have := O.units; show C.A.units + 3 + 10 * n < cLine; omega

theorem b_def {f : Addr} {name qual : Str} {params : Arguments} {body : List Stmt} {scope : Scope} {dV kV doc pm cdv ct oc : Value} {an od : Option Addr} {osl : Array (Option Value)} {as : List AV} {names : List Str}
    (O : C.Ok env (n + 1)) (ho : C.K.lookup f = some ⟨oc, od, .func (fnX name qual params body scope [] dV kV doc pm an cdv ct), osl⟩) (hcd : codeIn C.K cdv qual = true)
    (hb : ∀ vs : List Value, vs.length = as.length → bindArgs (fnX name qual params body scope [] dV kV doc pm an cdv ct) ⟨vs, []⟩ = Pure.pure (names.zip vs)) (hnd : names.Nodup) (hloc : ∀ y ∈ names, scope.names.lookup y = some .local)
    (hcell : ∀ x ∈ scope.names, x.2 ≠ .cell) (hco : scope.isCoroutine = false) (hgen : scope.isGenerator = false) (hk : scope.kind = .function)
    (h : ∀ g L', (C.callee env (envX qual scope L' f cdv []) g L').Ok (envX qual scope L' f cdv []) n → C.h₀.StaysIn g → AW RF (C.callee env (envX qual scope L' f cdv []) g L') (CE C (envX qual scope L' f cdv []) E) (execs body (envX qual scope L' f cdv [])) (fun fl _ σ' => Q fl.val ρ σ') (names.zip as) σ) :
    ACall C E (.ref f) as Q ρ σ := by
  intro vs hvs s hs
  obtain ⟨m, news, F, hl, N, hm⟩ := hs.frame
  refine wpAny_call ?_
  refine callX_plain (binds := names.zip vs) O.B F N O.T.nolimit O.hA O.hf O.hk ((O.X.keeps F.keep) _ _ ho) rfl (codeRec_of (O.X.keeps F.keep) hcd) (by have := O.depth; omega) (BindsTo.of_eq (hb vs hvs.length)) (fun y hy => hloc _ (List.of_mem_zip hy).1)
    (fun g L' h₁ FG F' N' B' st _ => ?_) hcell hco hgen hk
  have hs' : Rel (C.callee env (envX qual scope L' f cdv []) g L') (names.zip as) σ { s with heap := h₁, toks := s.toks + (names.zip vs).length } := by
    obtain ⟨⟨h'', tk, e⟩, _, _, nd⟩ := hs
    subst e
    refine ⟨⟨h₁, _, rfl⟩, ⟨_, F', lookup_zip_rev hnd hvs⟩, fun p hp => ?_, nd⟩
    obtain ⟨o, hn, r⟩ := hm p hp
    exact ⟨o, (N' _ hn).1, (N' _ hn).2.1, (N' _ hn).2.2, r⟩
  refine wpAny_mono (h g L' (O.callee (s := s) B' st rfl hk) st _ hs') (fun fl s' ⟨fl', ρ', σ', rf, hs₂, q⟩ => ?_) fun e s' x => ?_
  · obtain ⟨m', news', F₂, hl₂, N₂, hm₂⟩ := hs₂.frame
    refine leaveK_ F₂ N₂ fun F₃ N₃ => ?_
    have hr : Rel C ρ σ' s' := by
      obtain ⟨⟨h'', tk, e⟩, _, _, nd⟩ := hs₂
      refine ⟨⟨h'', tk, e⟩, ⟨m, F₃, hl⟩, fun p hp => ?_, nd⟩
      obtain ⟨o, hn, r⟩ := hm₂ p hp
      exact ⟨o, (N₃ _ hn).1, (N₃ _ hn).2.1, (N₃ _ hn).2.2, r⟩
    cases fl' with
    | next => cases rf; exact ⟨.none, ρ, σ', rfl, hr, q⟩
    | brk => cases rf; exact ⟨.none, ρ, σ', rfl, hr, q⟩
    | cont => cases rf; exact ⟨.none, ρ, σ', rfl, hr, q⟩
    | ret a => obtain ⟨v, rfl, rv⟩ := rf; exact ⟨a, ρ, σ', rv, hr, q⟩
  · exact x
end
end Mine
namespace Mine
open PySem PySem.W PySem.Spec PySem.Calls PyProof.Rows

/-- a comprehension's loop -/
def AComp (C : Cx) (elt target iter : Expr) (ifs : List Expr) (scope : Scope) (pos : Pos) (I D : Addr) (cenv : Env) (QC : Loc → Sto → Prop) (ρ : Loc) (σ : Sto) : Prop :=
  ∀ s (RR : Result → Shared → Prop), Rel C ρ σ s → (∀ ρ' σ' s', Rel C ρ' σ' s' → QC ρ' σ' → RR (.ok .next) s') → codeAny (model C.prog C.w) C.A (.compLoop (.ListComp elt [⟨target, iter, ifs, 0⟩] scope pos) 0 (.ref I) (.ref D) cenv) RR s
/-- a comprehension's tests -/
def ATests (C : Cx) (E : Value → Shared → Prop) (ifs : List Expr) (cenv : Env) (QB : Bool → Loc → Sto → Prop) (ρ : Loc) (σ : Sto) : Prop :=
  AW (Eq (α := Bool)) C E (forIn ifs true fun c r => if r = true then do let ok ← isTrue c cenv (eval c cenv); Pure.pure (ForInStep.yield ok) else Pure.pure (ForInStep.yield r)) QB ρ σ
def PFc (M : Model) (A : Around) (RR : Result → Shared → Prop) (c : Code) (n : Nat) (s' : Shared) : Fin → Shared → Prop := fun fin s'' => match fin with
  | .done f => RR (.ok f) s''
  | .again c' => (c' = c ∧ ∃ m, m < n ∧ s'' = s') ∨ (c'.quiet = true ∧ codeAny M A c' RR s'')
section
variable {C : Cx} {E : Value → Shared → Prop} {ρ : Loc} {σ : Sto} {env cenv : Env} {pos : Pos} {elt target iter : Expr} {ifs : List Expr} {scope : Scope} {I D : Addr} {QC : Loc → Sto → Prop} {QB : Bool → Loc → Sto → Prop}
theorem te_nil (h : QB true ρ σ) : ATests C E [] cenv QB ρ σ := fun _ hs => wpAny_tests_nil ⟨true, _, _, rfl, hs, h⟩
theorem te_one {c : Expr} (h : AW (Eq (α := Bool)) C E (isTrue c cenv (eval c cenv)) QB ρ σ) : ATests C E [c] cenv QB ρ σ := fun s hs => wpAny_tests_one (h s hs)
theorem AComp.subS {σ' : Sto} (h : AComp C elt target iter ifs scope pos I D cenv QC ρ σ') (hs : SubS σ' σ) : AComp C elt target iter ifs scope pos I D cenv QC ρ σ := fun s RR hr k => h s RR (hr.subS hs) k
/-- what an element's end asks -/
def CTurn (C : Cx) (elt target iter : Expr) (ifs : List Expr) (scope : Scope) (pos : Pos) (I D : Addr) (cenv : Env) (QC : Loc → Sto → Prop) : AV → Loc → Sto → Prop := fun y ρ₂ σ₂ =>
  ∃ acc σ₃, Pick (D, .list acc) σ₂ σ₃ ∧ acc.length ≤ sizeLine ∧ AComp C elt target iter ifs scope pos I D cenv QC ρ₂ ((D, .list (acc ++ [y])) :: σ₃)
theorem cp_item {σ' : Sto} {ao ao' : AO} {v : AV} (hσ : Pick (I, ao) σ σ') (nx : NxI C I ao σ' v ao')
    (h : ∀ E', AAs C E' cenv target I v (fun ρ₁ σ₁ => ATests C E' ifs cenv (fun ok ρ₂ σ₂ => if ok = true then AW RV C E' (eval elt cenv) (CTurn C elt target iter ifs scope pos I D cenv QC) ρ₂ σ₂ else AComp C elt target iter ifs scope pos I D cenv QC ρ₂ σ₂) ρ₁ σ₁) ρ ((I, ao') :: σ')) :
    AComp C elt target iter ifs scope pos I D cenv QC ρ σ := by
  intro s RR hs k
  have hs := hs.perm hσ
  refine codeAny_loop' rfl (fun _ s' => s' = s) (fun n s' e => ?_) 0 rfl
  subst e
  show wpAny _ C.A ((compTurn (.ListComp elt [⟨target, iter, ifs, 0⟩] scope pos) 0 (.ref I) (.ref D) cenv).onRaise (fun x => do noteFrame x cenv; theTreesLotGoes x)) _ _ s'
  refine wpAny_noted ?_
  rw [compTurn_list]
  refine wpAny_bind (wpAny_standAt (wpAny_bind (nx ρ s' _ _ hs fun vv s₁ rv hs₁ => ?_)))
  generalize notedBy _ _ _ _ = E'
  have h₁ := h E' vv rv s₁ hs₁
  have fin : ∀ s₅, codeAny (model C.prog C.w) C.A (.compLoop (.ListComp elt [⟨target, iter, ifs, 0⟩] scope pos) 0 (.ref I) (.ref D) cenv) RR s₅ →
      PFc (model C.prog C.w) C.A RR (.compLoop (.ListComp elt [⟨target, iter, ifs, 0⟩] scope pos) 0 (.ref I) (.ref D) cenv) n s' (Fin.again (.compLoop (.ListComp elt [⟨target, iter, ifs, 0⟩] scope pos) 0 (.ref I) (.ref D) cenv)) s₅ := fun s₅ x => .inr ⟨rfl, x⟩
  have h₂ := wpAny_bind (Q := PFc (model C.prog C.w) C.A RR (.compLoop (.ListComp elt [⟨target, iter, ifs, 0⟩] scope pos) 0 (.ref I) (.ref D) cenv) n s') (f := fun _ => do
        let mut ok := true
        for c in ifs do
          if ok then ok ← isTrue c cenv (eval c cenv)
        if ok then
          (do let _ ← call (.builtin "list.append") [.ref D, ← eval elt cenv])
        again (.compLoop (.ListComp elt [⟨target, iter, ifs, 0⟩] scope pos) 0 (.ref I) (.ref D) cenv)) (wpAny_mono h₁ (fun _ s₂ ⟨_, ρ₂, σ₂, _, hs₂, q⟩ => wpAny_bind (q.lift1 hs₂ fun ok ok' ρ₃ σ₃ s₃ e hs₃ h₃ => by
      subst e
      cases ok' with
      | false =>
        simp only [Bool.false_eq_true, if_false] at h₃
        exact wpAny_pure (fin _ (h₃ _ _ hs₃ k))
      | true =>
        simp only [if_true] at h₃
        refine wpAny_bind (wpAny_bind (h₃.lift1 hs₃ fun y a ρ₄ σ₄ s₄ ry hs₄ h₄ => ?_))
        obtain ⟨acc, σ₅, hp, hl, h₅⟩ := h₄
        refine wpAny_bind ((b_append (C := C) (E := E') (ρ := ρ₄) (Q := fun _ ρ' σ' => AComp C elt target iter ifs scope pos I D cenv QC ρ' σ') hp hl h₅ [.ref D, y] (.cons rfl (.one ry))).lift1 hs₄ fun _ _ ρ₆ σ₆ s₆ _ hs₆ h₆ => ?_)
        exact wpAny_pure (wpAny_pure (fin _ (h₆ _ _ hs₆ k))))) fun _ _ e => e)
  rw [bind_assoc] at h₂
  exact wpAny_mono h₂ (fun fin s' hf => by cases fin <;> exact hf) fun _ _ e => e
theorem cp_end {σ' : Sto} {ao : AO} (hσ : Pick (I, ao) σ σ') (nx : NxE C I ao σ') (h : QC ρ σ') : AComp C elt target iter ifs scope pos I D cenv QC ρ σ := by
  intro s RR hs k
  have hs := hs.perm hσ
  refine codeAny_loop' rfl (fun _ s' => s' = s) (fun n s' e => ?_) 0 rfl
  subst e
  show wpAny _ C.A ((compTurn (.ListComp elt [⟨target, iter, ifs, 0⟩] scope pos) 0 (.ref I) (.ref D) cenv).onRaise (fun x => do noteFrame x cenv; theTreesLotGoes x)) _ _ s'
  refine wpAny_noted ?_
  rw [compTurn_list]
  exact wpAny_bind (wpAny_standAt (wpAny_bind (nx ρ s' _ _ hs fun s₁ hs₁ => wpAny_pure (k _ _ _ hs₁ h))))
/-- behind the loop: the comprehension's own names go -/
def CDone (c D : Addr) (Q : AV → Loc → Sto → Prop) : Loc → Sto → Prop := fun ρ' σ' => ∃ ρ₂ σ'', Pick (c, .ns ρ₂) σ' σ'' ∧ Q (.ref D) ρ' σ''

theorem comp_start {QC' : Addr → Addr → Loc → Sto → Prop} {ao : AO} {cl : List (Str × Addr)} {s₂ : Shared} {RR : Value → Addr → Result → Shared → Prop} (hs : Rel C ρ σ s₂) (hI : (I, ao) ∈ σ) (nsf : NxS C I ao)
    (hcell : ∀ y ∈ scope.names, y.2 ≠ .cell) (hkind : scope.kind = .function)
    (h : ∀ D c, AComp C elt target iter ifs scope pos I D (compEnvC scope cl c env) (QC' D c) ρ ((c, .ns []) :: (D, .list []) :: σ))
    (hRR : ∀ D c ρ' σ' s', Rel C ρ' σ' s' → QC' D c ρ' σ' → RR (.ref D) c (.ok .next) s') :
    wpAny (model C.prog C.w) C.A (newList []) (fun acc s₃ => wpAny (model C.prog C.w) C.A (newFunctionEnv scope env.globals cl [] env.qual none .none (some env)) (fun cenv s₄ =>
      codeAny (model C.prog C.w) C.A (.compStart (.ListComp elt [⟨target, iter, ifs, 0⟩] scope pos) 0 (.ref I) acc { cenv with scope := relabel scope env }) (RR acc cenv.locals) s₄) E s₃) E s₂ := by
  refine wpAny_newObj_type (wpAny_newFunctionEnv hcell (by intro y hy; simp at hy) (fun h₁ hns₁ hsb₁ => ?_) hkind)
  dsimp only at hns₁ hsb₁ ⊢
  have hs₃ : Rel C ρ ((s₂.heap.objs.size, AO.list []) :: σ) { s₂ with heap := s₂.heap.push { cls := .type "list", dict := none, data := .seq ([] : List Value).toArray }, toks := s₂.toks } := hs.push (ao := .list []) ⟨[], 0, .nil, rfl⟩ rfl _
  generalize hH2 : s₂.heap.push { cls := .type "list", dict := none, data := .seq ([] : List Value).toArray } = H2 at hns₁ hsb₁ hs₃ ⊢
  have hs₄ := hs₃.push (o := { cls := .type "dict", data := .dict #[] }) (ao := .pred fun _ => True) trivial rfl s₂.toks
  obtain ⟨oC, eC, hoC⟩ := LCg.ns_obj hns₁
  have hs₅ : Rel C ρ ((H2.objs.size, AO.ns []) :: (s₂.heap.objs.size, .list []) :: σ) { s₂ with heap := h₁, toks := s₂.toks + ([] : List (Str × Value)).length } :=
    hs₄.updP hsb₁ eC (ao' := .ns []) ⟨_, hoC, fun x v e => by simp at e⟩ _
  have key := h s₂.heap.objs.size H2.objs.size _ (RR (.ref s₂.heap.objs.size) H2.objs.size) hs₅ (fun ρ' σ' s' hr hq => hRR _ _ _ _ _ hr hq)
  obtain ⟨oI, eI, _, _, rI⟩ := hs₅.led (I, ao) (.tail _ (.tail _ hI))
  exact codeAny_compStart_list key (nsf oI rI _ _ _ eI key)

theorem aw_ListComp {cl : List (Str × Addr)} {Q : AV → Loc → Sto → Prop} (hclos : closureFor scope env = Pure.pure cl) (hcell : ∀ y ∈ scope.names, y.2 ≠ .cell) (hkind : scope.kind = .function) (hnames : ∀ y ∈ scope.names, y.2 = .local → scope.names.lookup y.1 = some .local)
    (h : AW RV C E (eval iter env) (fun a ρ₁ σ₁ => AIt C E a (fun I ρ₂ σ₂ => ∃ ao, (I, ao) ∈ σ₂ ∧ NxS C I ao ∧ ∀ D c, AComp C elt target iter ifs scope pos I D (compEnvC scope cl c env) (CDone c D Q) ρ₂ ((c, .ns []) :: (D, .list []) :: σ₂)) ρ₁ σ₁) ρ σ)
    (hs : ∀ x, foldedSetIterable iter env x = Pure.pure x := by intro _; rfl) :
    AW RV C E (eval (.ListComp elt [⟨target, iter, ifs, 0⟩] scope pos) env) Q ρ σ := by
  intro s hs₀
  rw [eval_ListComp]
  refine wpAny_comprehension_free (use := none) rfl hs hclos hkind hnames (h.lift1 hs₀ fun v a _ _ s₁ rv hs₁ h₁ => wpAny_mono (h₁ v rv _ hs₁) (fun it s₂ ⟨I, ρ', σ', e, hs₂, ao, hI, nsf, h₂⟩ => ?_) fun _ _ e => e)
  subst e
  refine comp_start (RR := fun acc c => compPost (model C.prog C.w) C.A E none (fun a s' => ∃ b ρ' σ', RV b a ∧ Rel C ρ' σ' s' ∧ Q b ρ' σ') acc c) hs₂ hI nsf hcell hkind (QC' := fun D c => CDone c D Q) h₂ ?_
  rintro D c ρ₃ σ₃ s₃ hs₃ ⟨ρ₂, σ₄, hp, hq⟩
  have hs₃ := hs₃.perm hp
  obtain ⟨o, e, _, _, m, hn, _⟩ := hs₃.led (c, .ns ρ₂) (.head _)
  exact ⟨m, hn.ns e, fun h' hsb => ⟨.ref D, _, _, rfl, hs₃.extP hsb.extBut s₃.toks, hq⟩⟩
end
end Mine
namespace Mine
open PySem PySem.W PySem.Spec PySem.Calls PyProof.Rows

/-- a text by its signs -/
def tx (l : List Nat) : Str := ⟨l.toArray⟩
@[simp] theorem tx_len (l : List Nat) : (tx l).length = l.length := by simp [tx, Str.length]
theorem tx_cps (l : List Nat) : (tx l).cps.toList = l := by simp [tx]
theorem tx_app (a b : List Nat) : tx a ++ tx b = tx (a ++ b) := by
  apply Str.ext'
  rw [Str.cps_append]
  simp [tx]
theorem tx_inj {a b : List Nat} : tx a = tx b ↔ a = b := by
  constructor
  · intro h; have := congrArg (fun x : Str => x.cps.toList) h; simpa [tx_cps] using this
  · intro h; rw [h]
theorem tx_beq (a b : List Nat) : (tx a == tx b) = decide (a = b) := by
  by_cases h : a = b
  · subst h; simp
  · have : tx a ≠ tx b := fun e => h (tx_inj.mp e)
    simp [h, this]
def cAt (i : Int) (n : Nat) : Nat := (max 0 (min (if i < 0 then i + n else i) n)).toNat
def cLo (a : Option Int) (n : Nat) : Nat := match a with | none => 0 | some i => cAt i n
def cHi (b : Option Int) (n : Nat) : Nat := match b with | none => n | some i => cAt i n
theorem cAt_le (i : Int) (n : Nat) : cAt i n ≤ n := by unfold cAt; omega
theorem filterMap_range (l : List Nat) (a k : Nat) (h : a + k ≤ l.length) : ((List.range k).map (a + ·)).filterMap (fun x => l.toArray[x]?) = (l.drop a).take k := by
  induction k with
  | zero => simp
  | succ k ih =>
    rw [List.range_succ, List.map_append, List.filterMap_append, ih (by omega)]
    have h1 : a + k < l.length := by omega
    rw [List.take_add_one]
    simp [h1]
theorem tx_slice (l : List Nat) (a b : Option Int) : Txt.slice (tx l) a b = tx ((l.drop (cLo a l.length)).take (cHi b l.length - cLo a l.length)) := by
  have hidx : Builtin.Str.strSliceIndices a b 1 (tx l).length = (List.range (cHi b l.length - cLo a l.length)).map (cLo a l.length + ·) := by
    rw [tx_len]
    rw [← sliceRange_one]
    have e1 : ∀ i : Int, (if (1 : Int) > 0 then max 0 (min (if i < 0 then i + (l.length : Int) else i) l.length) else max (-1) (min (if i < 0 then i + (l.length : Int) else i) (l.length - 1))) = (cAt i l.length : Int) := by
      intro i
      simp only [cAt, show (1 : Int) > 0 from by decide, if_true]; omega
    unfold Builtin.Str.strSliceIndices
    cases a <;> cases b <;> simp only [e1, cLo, cHi] <;> rfl
  have hle : cLo a l.length ≤ l.length := by cases a with | none => exact Nat.zero_le _ | some i => exact cAt_le i _
  have hle2 : cHi b l.length ≤ l.length := by cases b with | none => exact Nat.le_refl _ | some i => exact cAt_le i _
  unfold Txt.slice
  rw [hidx]
  split
  · rename_i hc
    simp at hc
    have : cLo a l.length = 0 := by omega
    have : cHi b l.length = l.length := by omega
    simp [*]
  · show tx _ = _
    congr 1
    show List.filterMap (fun x => l.toArray[x]?) _ = _
    by_cases h : cLo a l.length ≤ cHi b l.length
    · exact filterMap_range l _ _ (by omega)
    · have : cHi b l.length - cLo a l.length = 0 := by omega
      simp [this]
theorem tx_from (l : List Nat) {i : Int} (h : 0 ≤ i) : Txt.slice (tx l) (some i) none = tx (l.drop i.toNat) := by
  rw [tx_slice]
  simp only [cLo, cHi, cAt]
  congr 1
  by_cases hi : i ≤ l.length
  · have e : (max 0 (min (if i < 0 then i + (l.length : Int) else i) l.length)).toNat = i.toNat := by omega
    rw [e, List.take_of_length_le (by simp)]
  · have e : (max 0 (min (if i < 0 then i + (l.length : Int) else i) l.length)).toNat = l.length := by omega
    rw [e, List.drop_of_length_le (Nat.le_refl _), List.drop_of_length_le (by omega)]
    simp
theorem tx_to (l : List Nat) {i : Int} (h : 0 ≤ i) : Txt.slice (tx l) none (some i) = tx (l.take i.toNat) := by
  rw [tx_slice]
  simp only [cLo, cHi, cAt, List.drop_zero, Nat.sub_zero]
  congr 1
  by_cases hi : i ≤ l.length
  · have e : (max 0 (min (if i < 0 then i + (l.length : Int) else i) l.length)).toNat = i.toNat := by omega
    rw [e]
  · have e : (max 0 (min (if i < 0 then i + (l.length : Int) else i) l.length)).toNat = l.length := by omega
    rw [e, List.take_of_length_le (Nat.le_refl _), List.take_of_length_le (by omega)]
theorem tx_to_neg (l : List Nat) {i : Int} (h : i < 0) : Txt.slice (tx l) none (some i) = tx (l.take (l.length + i).toNat) := by
  rw [tx_slice]
  simp only [cLo, cHi, cAt, List.drop_zero, Nat.sub_zero]
  congr 2
  omega
theorem tx_starts (l p : List Nat) : Txt.startswith (tx l) (tx p) = decide (l.take p.length = p) := by
  unfold Txt.startswith
  rw [StrLaws.subAt_eq]
  simp only [tx_len, tx_cps, List.drop_zero, Nat.zero_add]
  by_cases h : l.take p.length = p
  · have : p.length ≤ l.length := by have := congrArg List.length h; simp at this; omega
    simp [h, this]
  · simp [h]
theorem tx_ends (l p : List Nat) : Txt.endswith (tx l) (tx p) = decide (p.length ≤ l.length ∧ l.drop (l.length - p.length) = p) := by
  unfold Txt.endswith
  rw [StrLaws.subAt_eq]
  simp only [tx_len, tx_cps, Nat.zero_add]
  by_cases h : p.length ≤ l.length
  · rw [List.take_of_length_le (by simp; omega)]
    simp only [h, decide_true, true_and, Bool.true_and]
    by_cases hh : l.drop (l.length - p.length) = p <;> simp [hh]
  · simp [h]
theorem tx_item (l : List Nat) {i : Int} (h0 : 0 ≤ i) (h1 : i < l.length) : Txt.item (tx l) i = tx [l.getD i.toNat 0] := by
  have : (tx l).cps[i.toNat]? = some (l.getD i.toNat 0) := by
    have : i.toNat < l.length := by omega
    simp [tx, this]
  rw [item_meets h0 this]; rfl
def joinL (sep : List Nat) : List (List Nat) → List Nat
  | [] => []
  | [x] => x
  | x :: rest => x ++ sep ++ joinL sep rest
theorem tx_join (sep : List Nat) (ls : List (List Nat)) : Txt.join (tx sep) (ls.map tx) = tx (joinL sep ls) := by
  show Builtin.Str.glued _ _ = _
  rw [StrLaws.glued_eq_join]
  induction ls with
  | nil => rfl
  | cons x r ih =>
    cases r with
    | nil => rfl
    | cons y r =>
      show tx x ++ tx sep ++ Str.join (tx sep) ((y :: r).map tx) = _
      rw [ih, tx_app, tx_app]; rfl
theorem joinL_nil (ls : List (List Nat)) : joinL [] ls = ls.flatten := by
  induction ls with
  | nil => rfl
  | cons x r ih =>
    cases r with
    | nil => simp [joinL]
    | cons y r => simp only [joinL, List.append_nil, List.flatten_cons] at ih ⊢; rw [ih]
end Mine
namespace Mine
open PySem PySem.W PySem.Spec PySem.Calls PyProof.Rows
section
variable {C : Cx} {E : Value → Shared → Prop} {ρ : Loc} {σ : Sto} {pos : Pos} {x q : Str} {sc : Scope} {f : Addr} {cd : Value} {cl : List (Str × Addr)} {v : AV} {Q : AV → Loc → Sto → Prop} {n : Nat}
-- names in a def's frame
theorem xn_local (hk : sc.kind = .function) (hx : sc.names.lookup x = some .local) (hl : ρ.lookup x = some v) (h : Q v ρ σ) (hd : (x == ("__debug__" : Str)) = false) : AW RV C E (eval (.Name x pos) (envX q sc C.L f cd cl)) Q ρ σ :=
  aw_local hl h rfl hk hx hd
theorem xn_glob {v' : Value} (G : C.Gl) (hk : sc.kind = .function) (hx : sc.names.lookup x = some .globalImplicit) (e : nsIn C.K mainGlobals x = some (some v')) (r : RV v v') (h : Q v ρ σ) (hd : (x == ("__debug__" : Str)) = false) : AW RV C E (eval (.Name x pos) (envX q sc C.L f cd cl)) Q ρ σ :=
  aw_glob G e r h rfl hk hx hd
theorem xn_built {v' : Value} (G : C.Gl) (hk : sc.kind = .function) (hx : sc.names.lookup x = some .globalImplicit) (e : nsIn C.K mainGlobals x = some none) (hv : bootBuiltins x = some v') (r : RV v v') (h : Q v ρ σ) (hd : (x == ("__debug__" : Str)) = false) (hn : x ≠ "__name__") : AW RV C E (eval (.Name x pos) (envX q sc C.L f cd cl)) Q ρ σ :=
  aw_builtin G e hv r h hn rfl rfl hk hx hd
theorem xs_local {a : AV} {ρ' : Loc} {Q : Loc → Sto → Prop} (hk : sc.kind = .function) (hx : sc.names.lookup x = some .local) (hρ : rset ρ x a = ρ') (h : Q ρ' σ) : ASt C E (envX q sc C.L f cd cl) x a Q ρ σ :=
  st_local (hρ ▸ h) rfl hk hx
theorem lk_here {v : AV} {r : Loc} : List.lookup x ((x, v) :: r) = some v := by simp
theorem lk_there {y : Str} {v w : AV} {r : Loc} (h : (x == y) = false) (hl : r.lookup x = some v) : List.lookup x ((y, w) :: r) = some v := by rw [List.lookup_cons, h]; exact hl
theorem rs_here {a b : AV} {r : Loc} : rset ((x, b) :: r) x a = (x, a) :: r := by unfold rset; rw [if_pos rfl]
theorem rs_there {y : Str} {a b : AV} {r r' : Loc} (h : (x == y) = false) (hr : rset r x a = r') : rset ((y, b) :: r) x a = (y, b) :: r' := by rw [rset, if_neg (beq_eq_false_iff_ne.mp h), hr]
theorem rs_nil {a : AV} : rset [] x a = [(x, a)] := rfl
section
variable {env : Env}
theorem cw_fn {p : Pos} {f : Value} {e : Expr} {rest : List Expr} (h : AW RVs C E (spliced (backTo p (starEach (e :: rest) env))) (fun as ρ₁ σ₁ => Kp C f σ₁ ∧ ACall C E f as Q ρ₁ σ₁) ρ σ)
    (he : starEach (e :: rest) env = (false, eval e env) :: starEach rest env) (hplain : (backTo p (starEach rest env)).any (·.1) = false) :
    AW RV C E (callWith p f [] (backTo p (starEach (e :: rest) env)) []) Q ρ σ := cw_more (fa := []) .nil h he hplain
theorem cw_me {p : Pos} {f v : Value} {a : AV} {e : Expr} {rest : List Expr} (rv : RV a v) (h : AW RVs C E (spliced (backTo p (starEach (e :: rest) env))) (fun as ρ₁ σ₁ => Kp C f σ₁ ∧ ACall C E f (a :: as) Q ρ₁ σ₁) ρ σ)
    (he : starEach (e :: rest) env = (false, eval e env) :: starEach rest env) (hplain : (backTo p (starEach rest env)).any (·.1) = false) :
    AW RV C E (callWith p f [v] (backTo p (starEach (e :: rest) env)) []) Q ρ σ := cw_more (fa := [a]) (.one rv) h he hplain
theorem cw_me0 {p : Pos} {f v : Value} {a : AV} (rv : RV a v) (h : Kp C f σ ∧ ACall C E f [a] Q ρ σ) : AW RV C E (callWith p f [v] (backTo p (starEach [] env)) []) Q ρ σ := cw_none (fa := [a]) (.one rv) h.1 h.2
end
/-- calling a builtin or a type by its value -/
theorem cv_val {w : Value} {P : Value → Prop} (h : P w) : ∀ fv, RV (.val w) fv → P fv := by rintro _ rfl; exact h
theorem cv_ref {a : Addr} {P : Value → Prop} (h : P (.ref a)) : ∀ fv, RV (.ref a) fv → P fv := by rintro _ rfl; exact h
theorem cf_one {a : AV} {P : List Value → Prop} (h : ∀ v, RV a v → P [v]) : ∀ first, RVs [a] first → P first := by
  intro first hf; obtain ⟨v, rfl, r⟩ := RVs.one' (as := []) hf; exact h v r
end
/-- a def of the text, as the top has left it -/
structure Fn (K : Frag) (p : Program) (n : String) (f : Addr) : Prop where
  glob : nsIn K mainGlobals (Str.ofString n) = some (some (.ref f))
  keep : keepIn K (.ref f) = true
  obj : ∃ oc od osl qual pm cdv, K.lookup f = some ⟨oc, od, .func (fnX (Str.ofString n) qual (fnArgs p n) (fnBody p n) (fnScope p n) [] .none .none .none pm none cdv .none), osl⟩ ∧ codeIn K cdv qual = true
/-- a name of the builtins that the text does not bind -/
def Bn (K : Frag) (ns : List String) : Prop := ∀ n ∈ ns, nsIn K mainGlobals (Str.ofString n) = some none
section
variable {C : Cx} {E : Value → Shared → Prop} {ρ : Loc} {σ : Sto} {env : Env} {Q : AV → Loc → Sto → Prop} {n : Nat}
theorem b_fn {p : Program} {nm : String} {f : Addr} {as : List AV} {names : List Str} (O : C.Ok env (n + 1)) (F : Fn C.K p nm f)
    (hb : ∀ qual pm cdv (vs : List Value), vs.length = as.length → bindArgs (fnX (Str.ofString nm) qual (fnArgs p nm) (fnBody p nm) (fnScope p nm) [] .none .none .none pm none cdv .none) ⟨vs, []⟩ = Pure.pure (names.zip vs)) (hnd : names.Nodup) (hloc : ∀ y ∈ names, (fnScope p nm).names.lookup y = some .local)
    (hcell : ∀ x ∈ (fnScope p nm).names, x.2 ≠ .cell) (hco : (fnScope p nm).isCoroutine = false) (hgen : (fnScope p nm).isGenerator = false) (hk : (fnScope p nm).kind = .function)
    (h : ∀ (C' : Cx) qual cdv E', C'.K = C.K → C'.prog = C.prog → C'.w = C.w → C'.s₀ = C.s₀ → C.h₀.StaysIn C'.h₀ → C'.Ok (envX qual (fnScope p nm) C'.L f cdv []) n → AW RF C' E' (execs (fnBody p nm) (envX qual (fnScope p nm) C'.L f cdv [])) (fun fl _ σ' => Q fl.val ρ σ') (names.zip as) σ) :
    ACall C E (.ref f) as Q ρ σ := by
  obtain ⟨oc, od, osl, qual, pm, cdv, ho, hcd⟩ := F.obj
  exact b_def O ho hcd (hb qual pm cdv) hnd hloc hcell hco hgen hk fun g L' Ok' st => h (C.callee env (envX qual (fnScope p nm) L' f cdv []) g L') qual cdv _ rfl rfl rfl rfl st Ok'
end
theorem ASt.perm {C : Cx} {E : Value → Shared → Prop} {ρ : Loc} {σ σ' : Sto} {env : Env} {x : Str} {a : AV} {Q : Loc → Sto → Prop} (h : ASt C E env x a Q ρ σ') (hp : σ.Perm σ') : ASt C E env x a Q ρ σ := fun v rv s hs => h v rv s (hs.perm hp)
section
variable {C : Cx} {E : Value → Shared → Prop} {ρ : Loc} {σ σ' : Sto} {x q : Str} {sc : Scope} {f : Addr} {cd : Value} {cl : List (Str × Addr)} {a : AV}
/-- the names of a comprehension -/
theorem cs_local {env : Env} {scope : Scope} {c : Addr} {ρ₂ ρ₃ : Loc} {Q : Loc → Sto → Prop} (hk : scope.kind = .function) (hx : (relabel scope env).names.lookup x = some .local) (hσ : Pick (c, .ns ρ₂) σ σ') (hr : rset ρ₂ x a = ρ₃) (h : Q ρ ((c, .ns ρ₃) :: σ')) : ASt C E (compEnvC scope cl c env) x a Q ρ σ :=
  ASt.perm (st_ns (pre := []) rfl (hr ▸ h) rfl hk hx) hσ
theorem cn_local {env : Env} {scope : Scope} {c : Addr} {ρ₂ : Loc} {pos : Pos} {v : AV} {Q : AV → Loc → Sto → Prop} (hk : scope.kind = .function) (hx : (relabel scope env).names.lookup x = some .local) (hm : (c, AO.ns ρ₂) ∈ σ) (hl : ρ₂.lookup x = some v) (h : Q v ρ σ) (hd : (x == ("__debug__" : Str)) = false) : AW RV C E (eval (.Name x pos) (compEnvC scope cl c env)) Q ρ σ :=
  aw_ns hm hl h rfl hk hx hd
end
def LocSub (ρ' ρ : Loc) : Prop := ∀ p ∈ ρ', ρ.lookup p.1 = some p.2
theorem LocSub.nil {ρ : Loc} : LocSub [] ρ := fun _ h => nomatch h
theorem LocSub.cons {x : Str} {v : AV} {ρ' ρ : Loc} (h : ρ.lookup x = some v) (hr : LocSub ρ' ρ) : LocSub ((x, v) :: ρ') ρ := fun p hp => by
  rcases List.mem_cons.mp hp with e | hp
  · rw [e]; exact h
  · exact hr p hp
theorem LocSub.sub {ρ' ρ : Loc} (h : LocSub ρ' ρ) : ∀ x v, ρ'.lookup x = some v → ρ.lookup x = some v := fun x v e => h (x, v) (lk_mem e)
section
variable {C : Cx} {E : Value → Shared → Prop} {ρ ρ' : Loc} {σ σ' : Sto} {env : Env} {pos : Pos} {QF : AF → Loc → Sto → Prop} {Q : AV → Loc → Sto → Prop} {target test : Expr} {body : List Stmt} {I : Addr}
theorem AFor.to (h : AFor C E target I body env QF ρ' σ') (hs : SubS σ' σ) (hl : LocSub ρ' ρ) : AFor C E target I body env QF ρ σ := (h.subS hs).loc hl.sub
theorem AWhile.to (h : AWhile C E test body env QF ρ' σ') (hs : SubS σ' σ) (hl : LocSub ρ' ρ) : AWhile C E test body env QF ρ σ := (h.subS hs).loc hl.sub
theorem AW.to {α β : Type} {R : β → α → Prop} {t : Sem α} {Q : β → Loc → Sto → Prop} (h : AW R C E t Q ρ' σ') (hs : SubS σ' σ) (hl : LocSub ρ' ρ) : AW R C E t Q ρ σ := (h.subS hs).loc hl.sub
theorem ex_expr {e : Expr} (h : AW RV C E (eval e env) (fun v ρ₁ σ₁ => match v with | .none => QF .next ρ₁ σ₁ | _ => False) ρ σ) (hi : interactive env = false) (hsw : swapsWith e none pos.line env = Pure.pure false) : AW RF C E (exec (.Expr e pos) env) QF ρ σ :=
  fun _ hs => wpAny_Expr (h.lift1 hs fun v a _ _ _ rv hs₁ h₁ => by
    cases a with
    | none => cases rv; exact ⟨.next, _, _, rfl, hs₁, h₁⟩
    | _ => exact h₁.elim) hi hsw
theorem aw_strx {x : Str} {l : List Nat} {k : Nat} (e : x = tx l) (h : Q (.str (tx l)) ρ σ) : AW RV C E (eval (.Constant (.str x) k pos) env) Q ρ σ := aw_str (e ▸ h)
theorem str_tx (x : Str) : x = tx x.cps.toList := by simp [tx]
-- texts by their signs
theorem t_starts {l p : List Nat} (h : Q (.bool (decide (l.take p.length = p))) ρ σ) : ACall C E (.builtin "str.startswith") [.str (tx l), .str (tx p)] Q ρ σ := b_startswith (by rw [tx_starts]; exact h)
theorem t_ends {l p : List Nat} (h : Q (.bool (decide (p.length ≤ l.length ∧ l.drop (l.length - p.length) = p))) ρ σ) : ACall C E (.builtin "str.endswith") [.str (tx l), .str (tx p)] Q ρ σ := b_endswith (by rw [tx_ends]; exact h)
theorem t_add {a b : List Nat} (hz : a.length + b.length ≤ sizeLine) (h : Q (.str (tx (a ++ b))) ρ σ) : Op2 C E .Add (.str (tx a)) (.str (tx b)) Q ρ σ := o_add_str (by simpa using hz) (by rw [tx_app]; exact h)
theorem t_eq {a b : List Nat} (h : Q (.bool (decide (a = b))) ρ σ) : Cmp2 C E .Eq (.str (tx a)) (.str (tx b)) Q ρ σ := c_eq_str (by rw [tx_beq]; exact h)
theorem t_item {value slice : Expr} {l : List Nat} {i : Int} (h0 : 0 ≤ i) (h1 : i < l.length) (hl : l.length ≤ sizeLine) (h : Q (.str (tx [l.getD i.toNat 0])) ρ σ)
    (hsl : ∀ t u, subscripted slice false (.str (tx l) t) (.int i u) = operate [.str (tx l) t, .int i u] (getItem (.str (tx l) t) (.int i u)))
    (ht : ∀ t r, letTemporaryGo value (.str (tx l) t) r = Pure.pure ()) : A2 C E (subscriptTail value slice) (.str (tx l)) (.int i) Q ρ σ :=
  s_item_str (by simp; omega) (by simpa using h1) (by simpa using hl) (by rw [tx_item l h0 h1]; exact h) hsl ht
section
variable {value slice : Expr} {l : List Nat} {i j : Int}
  (hl : l.length ≤ sizeLine) (hsl : ∀ t r, subscripted slice false (.str (tx l) t) (.ref r) = operate [.ref r, .str (tx l) t] (getItem (.str (tx l) t) (.ref r))) (ht : ∀ t r, letTemporaryGo value (.str (tx l) t) r = Pure.pure ())
include hl hsl ht
theorem t_from (h0 : 0 ≤ i) (h : Q (.str (tx (l.drop i.toNat))) ρ σ) : ASl C E value slice (.str (tx l)) (.int i) .none Q ρ σ := sl_str_sn (by simpa using hl) (by rw [tx_from l h0]; exact h) hsl ht
theorem t_to (h0 : 0 ≤ i) (h : Q (.str (tx (l.take i.toNat))) ρ σ) : ASl C E value slice (.str (tx l)) .none (.int i) Q ρ σ := sl_str_ns (by simpa using hl) (by rw [tx_to l h0]; exact h) hsl ht
theorem t_to_neg (h0 : i < 0) (h : Q (.str (tx (l.take (l.length + i).toNat))) ρ σ) : ASl C E value slice (.str (tx l)) .none (.int i) Q ρ σ := sl_str_ns (by simpa using hl) (by rw [tx_to_neg l h0]; exact h) hsl ht
end
end
end Mine
namespace Mine
open PySem PySem.W PySem.Spec PySem.Calls PyProof.Rows
def pySl {α : Type} (xs : List α) (a b : Option Int) : List α := (xs.drop (cLo a xs.length)).take (cHi b xs.length - cLo a xs.length)
theorem slicePick_eq (vs : List Value) (a b : Option Int) : slicePick vs.toArray a b none = (pySl vs a b).toArray := by
  have e1 : ∀ i : Int, (if (1 : Int) > 0 then max 0 (min (if i < 0 then i + (vs.length : Int) else i) vs.length) else max (-1) (min (if i < 0 then i + (vs.length : Int) else i) (vs.length - 1))) = (cAt i vs.length : Int) := by
    intro i
    simp only [cAt, show (1 : Int) > 0 from by decide, if_true]; omega
  have hb : sliceBounds a b none vs.length = ((cLo a vs.length : Int), (cHi b vs.length : Int), 1) := by
    unfold sliceBounds
    simp only [Option.getD_none]
    cases a <;> cases b <;> simp only [e1, cLo, cHi] <;> rfl
  unfold slicePick
  rw [List.size_toArray, hb]
  show ((sliceRange (cLo a vs.length : Int) (cHi b vs.length : Int) 1).filterMap (vs.toArray[·]?)).toArray = _
  rw [sliceRange_one, pick_run]
  rfl
theorem RVs.pySl {as vs} (h : RVs as vs) (a b : Option Int) : RVs (pySl as a b) (pySl vs a b) := by
  unfold Mine.pySl
  rw [h.length]
  exact (h.drop _).take _
def optI : AV → Option (Option Int)
  | .none => some none
  | .int i => some (some i)
  | _ => none
theorem isPart_of {a : AV} {v : Value} {o : Option Int} (h : optI a = some o) (r : RV a v) : IsPart v o := by
  cases a with
  | none => cases h; cases r; exact .none
  | int i => cases h; obtain ⟨t, rfl⟩ := r; exact .int _ _
  | _ => cases h
section
variable {C : Cx} {E : Value → Shared → Prop} {ρ : Loc} {σ : Sto} {env : Env} {pos : Pos} {Q : AV → Loc → Sto → Prop} {value slice : Expr} {a : Addr} {xs : List AV}
theorem sl_listG {lo hi : AV} {l u : Option Int} (hv : ∀ s, Rel C ρ σ s → ∃ vs, RVs xs vs ∧ s.heap.IsList a vs.toArray) (hx : xs.length ≤ sizeLine) (hl : optI lo = some l) (hu : optI hi = some u) (h : ∀ r, Q (.ref r) ρ ((r, .list (pySl xs l u)) :: σ))
    (hsl : ∀ r, subscripted slice false (.ref a) (.ref r) = operate [.ref r, .ref a] (getItem (.ref a) (.ref r))) : ASl C E value slice (.ref a) lo hi Q ρ σ := by
  rintro _ vl vu s rfl rl ru hs
  have hs₁ := hs.push (o := { cls := .type "slice", data := .fields #[vl, vu, .none] }) (ao := .raw _) rfl rfl s.toks
  have hs₂ := hs₁.subS (SubS.drop (e := _) SubS.refl)
  obtain ⟨vs, rv, hl'⟩ := hv _ hs₂
  refine tail_any (T := "list") (Heap.IsList.typeIs hl') list_getitem_lookup (wpAny_getItem_list_slice hl' (Heap.IsSliceOf.new ..) (isPart_of hl rl) (isPart_of hu ru) .none (by simp) ?_ (by rw [List.size_toArray, rv.length]; exact hx)) (hsl _)
  refine ⟨.ref _, _, _, rfl, hs₂.push (ao := .list (pySl xs l u)) ⟨pySl vs l u, 0, rv.pySl l u, ?_⟩ rfl s.toks, h _⟩
  rw [slicePick_eq]
theorem sl_list {lo hi : AV} {l u : Option Int} (hm : (a, AO.list xs) ∈ σ) (hx : xs.length ≤ sizeLine) (hl : optI lo = some l) (hu : optI hi = some u) (h : ∀ r, Q (.ref r) ρ ((r, .list (pySl xs l u)) :: σ))
    (hsl : ∀ r, subscripted slice false (.ref a) (.ref r) = operate [.ref r, .ref a] (getItem (.ref a) (.ref r))) : ASl C E value slice (.ref a) lo hi Q ρ σ :=
  sl_listG (fun _ hs => hs.isList hm) hx hl hu h hsl
end
end Mine
namespace Mine
open PySem PySem.W PySem.Spec PySem.Calls PyProof.Rows
theorem bb_len : bootBuiltins (Str.ofString "len") = some (.builtin "len") := by kernel_rfl
theorem bb_abs : bootBuiltins (Str.ofString "abs") = some (.builtin "abs") := by kernel_rfl
theorem bb_max : bootBuiltins (Str.ofString "max") = some (.builtin "max") := by kernel_rfl
theorem bb_min : bootBuiltins (Str.ofString "min") = some (.builtin "min") := by kernel_rfl
theorem bb_sum : bootBuiltins (Str.ofString "sum") = some (.builtin "sum") := by kernel_rfl
theorem bb_chr : bootBuiltins (Str.ofString "chr") = some (.builtin "chr") := by kernel_rfl
theorem bb_sorted : bootBuiltins (Str.ofString "sorted") = some (.builtin "sorted") := by kernel_rfl
theorem bb_divmod : bootBuiltins (Str.ofString "divmod") = some (.builtin "divmod") := by kernel_rfl
theorem bb_isinstance : bootBuiltins (Str.ofString "isinstance") = some (.builtin "isinstance") := by kernel_rfl
theorem bb_range : bootBuiltins (Str.ofString "range") = some (.type "range") := by kernel_rfl
theorem bb_str : bootBuiltins (Str.ofString "str") = some (.type "str") := by kernel_rfl
theorem bb_int : bootBuiltins (Str.ofString "int") = some (.type "int") := by kernel_rfl
theorem bb_bool : bootBuiltins (Str.ofString "bool") = some (.type "bool") := by kernel_rfl
end Mine
namespace Mine
open PySem PySem.W PySem.Spec PySem.Calls PyProof.Rows
theorem LocSub.refl {ρ : Loc} (hn : (ρ.map (·.1)).Nodup) : LocSub ρ ρ := fun p hp => lk_nd hn hp
/-- a smaller end -/
def Shr {β : Type} (Q : β → Loc → Sto → Prop) : β → Loc → Sto → Prop := fun b ρ' σ' => ∃ ρ'' σ'', SubS σ'' σ' ∧ LocSub ρ'' ρ' ∧ Q b ρ'' σ''
section
variable {C : Cx} {E : Value → Shared → Prop} {ρ : Loc} {σ : Sto} {env : Env} {pos : Pos} {QF : AF → Loc → Sto → Prop} {target test : Expr} {body : List Stmt} {I : Addr}
theorem AW.shrink {α β : Type} {R : β → α → Prop} {t : Sem α} {Q : β → Loc → Sto → Prop} (h : AW R C E t (Shr Q) ρ σ) : AW R C E t Q ρ σ :=
  fun s hs => wpAny_mono (h s hs) (fun a s' ⟨b, ρ', σ', r, x, ρ'', σ'', h1, h2, q⟩ => ⟨b, ρ'', σ'', r, (x.subS h1).loc h2.sub, q⟩) fun _ _ e => e
/-- a statement, by what holds behind it -/
theorem ex_seq {st : Stmt} {rest : List Stmt} (Mid : Loc → Sto → Prop) (h : AW RF C E (exec st env) (fun f ρ₁ σ₁ => match f with | .next => ∃ ρ₂ σ₂, Mid ρ₂ σ₂ ∧ SubS σ₂ σ₁ ∧ LocSub ρ₂ ρ₁ | _ => False) ρ σ)
    (k : ∀ ρ₂ σ₂, Mid ρ₂ σ₂ → AW RF C E (execs rest env) QF ρ₂ σ₂) : AW RF C E (execs (st :: rest) env) QF ρ σ := by
  refine ex_cons (h.mono fun f ρ₁ σ₁ hf => ?_)
  cases f with
  | next => obtain ⟨ρ₂, σ₂, hm, hs, hl⟩ := hf; exact (k ρ₂ σ₂ hm).to hs hl
  | _ => exact hf.elim
/-- a source of items -/
def Src (C : Cx) (a : Addr) (xs : List AV) (σ : Sto) : Prop := (a, AO.list xs) ∈ σ ∨ BaseL C a xs
theorem Src.nx {a : Addr} {xs : List AV} {i : Nat} {v : AV} (h : Src C a xs σ) (hv : xs[i]? = some v) : NxI C I (literO a i) σ v (literO a (i + 1)) := by
  rcases h with h | h
  · exact nx_list h hv
  · exact nx_base h hv
theorem Src.nxe {a : Addr} {xs : List AV} {i : Nat} (hh : C.A.handled = none) (h : Src C a xs σ) (hv : xs.length ≤ i) : NxE C I (literO a i) σ := by
  rcases h with h | h
  · exact nx_list_end hh h hv
  · exact nx_base_end hh h hv
/-- an iterator's states and items -/
structure Iter (C : Cx) (it : Nat → AO) (xs : List AV) (ok : Sto → Prop) : Prop where
  item : ∀ I σ i v, ok σ → xs[i]? = some v → NxI C I (it i) σ v (it (i + 1))
  fin : ∀ I σ, ok σ → NxE C I (it xs.length) σ
  self : ∀ I i, NxS C I (it i)
  more : ∀ σ e, ok σ → ok (e :: σ)
theorem iter_list {a : Addr} {xs : List AV} (hh : C.A.handled = none) : Iter C (literO a) xs (Src C a xs) where
  item := fun _ _ _ _ h hv => h.nx hv
  fin := fun _ _ h => h.nxe hh (Nat.le_refl _)
  self := fun _ _ => ns_list
  more := fun _ _ h => h.imp (.tail _) id
/-- the ints of a range -/
def rng (x : Int) (n : Nat) : List AV := (List.range n).map fun i => .int (x + (i : Nat))
theorem rng_length (x : Int) (n : Nat) : (rng x n).length = n := by simp [rng]
theorem iter_range {x : Int} {n : Nat} (hh : C.A.handled = none) : Iter C (fun i => riterO (x + (i : Nat)) ((n : Int) - (i : Nat))) (rng x n) (fun _ => True) where
  item := fun I σ i v _ hv => by
    have hlt : i < n := by have := (List.getElem?_eq_some_iff.mp hv).1; simpa [rng] using this
    have hv' : v = .int (x + (i : Nat)) := by simp [rng, hlt] at hv; exact hv.symm
    subst hv'
    have e1 : x + ((i + 1 : Nat) : Int) = x + (i : Nat) + 1 := by omega
    have e2 : (n : Int) - ((i + 1 : Nat) : Int) = (n : Int) - (i : Nat) - 1 := by omega
    show NxI C I (riterO (x + (i : Nat)) ((n : Int) - (i : Nat))) σ _ (riterO (x + ((i + 1 : Nat) : Int)) ((n : Int) - ((i + 1 : Nat) : Int)))
    rw [e1, e2]
    exact nx_range (by omega)
  fin := fun I σ _ => nx_range_end hh (by rw [rng_length]; omega)
  self := fun _ _ => ns_range
  more := fun _ _ h => h
theorem for_ind {it : Nat → AO} {ok : Sto → Prop} {xs : List AV} (W : Iter C it xs ok) (J : List AV → List AV → Loc → Sto → Prop)
    (src : ∀ d r ρ σ, J d r ρ σ → ok σ)
    (step : ∀ d v r ρ σ, xs = d ++ v :: r → J d (v :: r) ρ σ → AAs C (LE C env E) env target I v (fun ρ₁ σ₁ => AW RF C (LE C env E) (execs body env) (Turn QF (fun ρ₂ σ₂ => ∃ ρ₃ σ₃, J (d ++ [v]) r ρ₃ σ₃ ∧ SubS ((I, it (d.length + 1)) :: σ₃) σ₂ ∧ LocSub ρ₃ ρ₂)) ρ₁ σ₁) ρ ((I, it (d.length + 1)) :: σ))
    (fin : ∀ ρ σ, J xs [] ρ σ → QF .next ρ σ) (h0 : J [] xs ρ σ) : AFor C E target I body env QF ρ ((I, it 0) :: σ) := by
  have key : ∀ (r d : List AV) (ρ : Loc) (σ : Sto), xs = d ++ r → J d r ρ σ → AFor C E target I body env QF ρ ((I, it d.length) :: σ) := by
    intro r
    induction r with
    | nil =>
      intro d ρ σ e hJ
      rw [List.append_nil] at e
      subst e
      exact for_end Pick.head (W.fin _ _ (src _ _ _ _ hJ)) (fin _ _ hJ)
    | cons v r ih =>
      intro d ρ σ e hJ
      refine for_item Pick.head (W.item _ _ _ v (src _ _ _ _ hJ) (by rw [e]; simp)) ?_
      intro vv rv s hs
      refine wpAny_mono (step d v r ρ σ e hJ vv rv s hs) (fun _ s' ⟨u, ρ₁, σ₁, eu, hs₁, h₁⟩ => ⟨u, ρ₁, σ₁, eu, hs₁, h₁.mono fun f ρ₂ σ₂ ht => ?_⟩) fun _ _ e => e
      have go : (∃ ρ₃ σ₃, J (d ++ [v]) r ρ₃ σ₃ ∧ SubS ((I, it (d.length + 1)) :: σ₃) σ₂ ∧ LocSub ρ₃ ρ₂) → AFor C E target I body env QF ρ₂ σ₂ := by
        rintro ⟨ρ₃, σ₃, hJ', hs', hl'⟩
        have := ih (d ++ [v]) ρ₃ σ₃ (by rw [e]; simp) hJ'
        rw [List.length_append, List.length_singleton] at this
        exact AFor.to this hs' hl'
      cases f with
      | next => exact go ht
      | cont => exact go ht
      | brk => exact ht
      | ret w => exact ht
  exact key xs [] ρ σ rfl h0
theorem while_ind (J : Nat → Loc → Sto → Prop) (n : Nat)
    (step : ∀ n ρ σ, J n ρ σ → AW (Eq (α := Bool)) C (LE C env E) (isTrue test env (eval test env)) (fun b ρ₁ σ₁ => if b = true then AW RF C (LE C env E) (execs body env) (Turn QF (fun ρ₂ σ₂ => ∃ m ρ₃ σ₃, m < n ∧ J m ρ₃ σ₃ ∧ SubS σ₃ σ₂ ∧ LocSub ρ₃ ρ₂)) ρ₁ σ₁ else QF .next ρ₁ σ₁) ρ σ)
    (h0 : J n ρ σ) : AWhile C E test body env QF ρ σ := by
  induction n using Nat.strongRecOn generalizing ρ σ with
  | ind n ih =>
    refine wh_turn ((step n ρ σ h0).mono fun b ρ₁ σ₁ h₁ => ?_)
    cases b with
    | false => simpa using h₁
    | true =>
      simp only [if_true] at h₁ ⊢
      refine h₁.mono fun f ρ₂ σ₂ ht => ?_
      have go : (∃ m ρ₃ σ₃, m < n ∧ J m ρ₃ σ₃ ∧ SubS σ₃ σ₂ ∧ LocSub ρ₃ ρ₂) → AWhile C E test body env QF ρ₂ σ₂ := by
        rintro ⟨m, ρ₃, σ₃, hm, hJ', hs', hl'⟩
        exact AWhile.to (ih m hm hJ') hs' hl'
      cases f with
      | next => exact go ht
      | cont => exact go ht
      | brk => exact ht
      | ret w => exact ht
end
section
variable {C : Cx} {E : Value → Shared → Prop} {ρ : Loc} {σ : Sto} {env cenv : Env} {pos : Pos} {elt target iter : Expr} {ifs : List Expr} {scope : Scope} {I D c : Addr} {QC : Loc → Sto → Prop}
theorem Rel.nsNil {s : Shared} {e : Addr × AO} {ρ₂ : Loc} (h : Rel C ρ (e :: (c, .ns ρ₂) :: σ) s) : Rel C ρ (e :: (c, .ns []) :: σ) s := by
  refine ⟨h.shape, h.fr, fun p hp => ?_, by simpa using h.nd⟩
  rcases List.mem_cons.mp hp with rfl | hp
  · exact h.led _ (.head _)
  · rcases List.mem_cons.mp hp with rfl | hp
    · obtain ⟨o, h1, h2, h3, m, hn, _⟩ := h.led (c, .ns ρ₂) (.tail _ (.head _))
      exact ⟨o, h1, h2, h3, m, hn, fun x v e => by simp at e⟩
    · exact h.led _ (.tail _ (.tail _ hp))
/-- a turn of a comprehension: the element, or the next -/
def CStep (C : Cx) (elt target iter : Expr) (ifs : List Expr) (cenv : Env) (I : Addr) (v : AV) (yes : AV → Loc → Sto → Prop) (no : Loc → Sto → Prop) (ρ : Loc) (σ : Sto) : Prop :=
  ∀ E', AAs C E' cenv target I v (fun ρ₁ σ₁ => ATests C E' ifs cenv (fun ok ρ₂ σ₂ => if ok = true then AW RV C E' (eval elt cenv) yes ρ₂ σ₂ else no ρ₂ σ₂) ρ₁ σ₁) ρ σ
/-- items done, items to come, the list so far, the store beside iterator, list and names -/
theorem comp_ind {it : Nat → AO} {ok : Sto → Prop} {xs : List AV} (W : Iter C it xs ok) (J : List AV → List AV → List AV → Sto → Prop) (hx : xs.length ≤ sizeLine)
    (src : ∀ d r acc σ, J d r acc σ → ok σ) (hlen : ∀ d r acc σ, J d r acc σ → acc.length ≤ d.length)
    (step : ∀ d v r acc σ, xs = d ++ v :: r → J d (v :: r) acc σ → CStep C elt target iter ifs cenv I v
      (fun y ρ₁ σ₁ => ∃ ρ₃ σ₃, J (d ++ [v]) r (acc ++ [y]) σ₃ ∧ SubS ((D, .list acc) :: (c, .ns ρ₃) :: (I, it (d.length + 1)) :: σ₃) σ₁ ∧ LocSub ρ ρ₁)
      (fun ρ₁ σ₁ => ∃ ρ₃ σ₃, J (d ++ [v]) r acc σ₃ ∧ SubS ((D, .list acc) :: (c, .ns ρ₃) :: (I, it (d.length + 1)) :: σ₃) σ₁ ∧ LocSub ρ ρ₁) ρ ((I, it (d.length + 1)) :: (c, .ns []) :: (D, .list acc) :: σ))
    (fin : ∀ acc ρ₂ σ, J xs [] acc σ → QC ρ ((c, .ns ρ₂) :: (D, .list acc) :: σ)) (h0 : J [] xs [] σ) :
    AComp C elt target iter ifs scope pos I D cenv QC ρ ((c, .ns []) :: (D, .list []) :: (I, it 0) :: σ) := by
  have key : ∀ (r d acc : List AV) (ρ₂ : Loc) (σ : Sto), xs = d ++ r → J d r acc σ → AComp C elt target iter ifs scope pos I D cenv QC ρ ((I, it d.length) :: (c, .ns ρ₂) :: (D, .list acc) :: σ) := by
    intro r
    induction r with
    | nil =>
      intro d acc ρ₂ σ e hJ
      rw [List.append_nil] at e
      subst e
      exact cp_end Pick.head (W.fin _ _ (W.more _ _ (W.more _ _ (src _ _ _ _ hJ)))) (fin _ _ _ hJ)
    | cons v r ih =>
      intro d acc ρ₂ σ e hJ
      refine cp_item Pick.head (W.item _ _ _ v (W.more _ _ (W.more _ _ (src _ _ _ _ hJ))) (by rw [e]; simp)) fun E' vv rv s hs => ?_
      have hl := hlen _ _ _ _ hJ
      have hd : d.length ≤ sizeLine := by have := congrArg List.length e; simp at this; omega
      refine wpAny_mono (step d v r acc σ e hJ E' vv rv s hs.nsNil) (fun _ s' ⟨u, ρ₁, σ₁, eu, hs₁, h₁⟩ => ⟨u, ρ₁, σ₁, eu, hs₁, ?_⟩) fun _ _ e => e
      refine AW.mono h₁ fun ok ρ₄ σ₄ h₄ => ?_
      cases ok with
      | false =>
        simp only [Bool.false_eq_true, if_false] at h₄ ⊢
        obtain ⟨ρ₃, σ₃, hJ', hsub, hloc⟩ := h₄
        have := ih (d ++ [v]) acc ρ₃ σ₃ (by rw [e]; simp) hJ'
        rw [List.length_append, List.length_singleton] at this
        exact fun s RR hr k => this.subS (SubS.trans ⟨[], by rw [List.append_nil]; exact ((List.Perm.swap _ _ _).trans ((List.Perm.swap _ _ _).cons _)).trans ((List.Perm.swap _ _ _))⟩ hsub) s RR (hr.loc hloc.sub) k
      | true =>
        simp only [if_true] at h₄ ⊢
        refine AW.mono h₄ fun y ρ₅ σ₅ h₅ => ?_
        obtain ⟨ρ₃, σ₃, hJ', ⟨l, hperm⟩, hloc⟩ := h₅
        refine ⟨acc, (c, .ns ρ₃) :: (I, it (d.length + 1)) :: σ₃ ++ l, hperm, by omega, ?_⟩
        have := ih (d ++ [v]) (acc ++ [y]) ρ₃ σ₃ (by rw [e]; simp) hJ'
        rw [List.length_append, List.length_singleton] at this
        refine fun s RR hr k => this.subS ⟨l, ?_⟩ s RR (hr.loc hloc.sub) k
        have e2 : ((D, AO.list (acc ++ [y])) :: ((c, .ns ρ₃) :: (I, it (d.length + 1)) :: σ₃ ++ l)) = ((D, AO.list (acc ++ [y])) :: (c, .ns ρ₃) :: (I, it (d.length + 1)) :: (σ₃ ++ l)) := rfl
        rw [e2]
        exact ((List.Perm.swap _ _ _).trans ((List.Perm.swap _ _ _).cons _)).trans ((List.Perm.swap _ _ _))
  exact (key xs [] [] [] σ rfl h0).subS ⟨[], by rw [List.append_nil]; exact ((List.Perm.swap _ _ _).cons _).trans (List.Perm.swap _ _ _)⟩
end
end Mine
namespace Mine
open PySem PySem.W PySem.Spec PySem.Calls PyProof.Rows
section
variable {C : Cx} {E : Value → Shared → Prop} {ρ : Loc} {σ : Sto} {Q : AV → Loc → Sto → Prop}
theorem o_modP {a b : Int} (hb : 0 < b) (h : Q (.int (a % b)) ρ σ) : Op2 C E .Mod (.int a) (.int b) Q ρ σ :=
  o_mod_int (by omega) (by rw [Int.fmod_eq_emod_of_nonneg _ (by omega)]; exact h)
theorem o_divP {a b : Int} (hb : 0 < b) (hp : b.natAbs < 2 ^ 64) (h : Q (.int (a / b)) ρ σ) : Op2 C E .FloorDiv (.int a) (.int b) Q ρ σ :=
  o_div_int (by omega) (PyProof.noPylong_of_log2 (by
    have := (Nat.log2_lt (by omega) (k := 64)).mpr hp
    omega)) (by rw [Int.fdiv_eq_ediv_of_nonneg _ (by omega)]; exact h)
end
theorem mem_ints {ns : List Int} {d : List AV} {v : AV} {r : List AV} (h : ns.map AV.int = d ++ v :: r) : ∃ x, v = .int x := by
  have : v ∈ ns.map AV.int := by rw [h]; simp
  obtain ⟨x, _, e⟩ := List.mem_map.mp this
  exact ⟨x, e.symm⟩
section
variable {C : Cx} {E : Value → Shared → Prop} {ρ : Loc} {σ : Sto} {pos : Pos} {x q : Str} {sc : Scope} {f : Addr} {cd : Value} {cl : List (Str × Addr)} {Q : AV → Loc → Sto → Prop} {QF : AF → Loc → Sto → Prop} {env : Env}
theorem xn_globR {a : Addr} (G : C.Gl) (hk : sc.kind = .function) (hx : sc.names.lookup x = some .globalImplicit) (e : nsIn C.K mainGlobals x = some (some (.ref a))) (h : Q (.ref a) ρ σ) (hd : (x == ("__debug__" : Str)) = false) : AW RV C E (eval (.Name x pos) (envX q sc C.L f cd cl)) Q ρ σ :=
  xn_glob G hk hx e (v := .ref a) rfl h hd
theorem xn_builtV {v' : Value} (G : C.Gl) (hk : sc.kind = .function) (hx : sc.names.lookup x = some .globalImplicit) (e : nsIn C.K mainGlobals x = some none) (hv : bootBuiltins x = some v') (h : Q (.val v') ρ σ) (hd : (x == ("__debug__" : Str)) = false) (hn : x ≠ "__name__") : AW RV C E (eval (.Name x pos) (envX q sc C.L f cd cl)) Q ρ σ :=
  xn_built G hk hx e hv (v := .val v') rfl h hd hn
theorem ex_exprX {e : Expr} (hk : sc.kind = .function) (h : AW RV C E (eval e (envX q sc C.L f cd cl)) (fun v ρ₁ σ₁ => match v with | .none => QF .next ρ₁ σ₁ | _ => False) ρ σ) (hsw : swapsWith e none pos.line (envX q sc C.L f cd cl) = Pure.pure false) : AW RF C E (exec (.Expr e pos) (envX q sc C.L f cd cl)) QF ρ σ :=
  ex_expr h (by unfold interactive; rw [show (envX q sc C.L f cd cl).scope.kind = .function from hk]; rfl) hsw
end
theorem mem_ints' {ns : List Int} {d : List AV} {v : AV} {r : List AV} (h : ns.map AV.int = d ++ v :: r) : ∃ x, v = .int x ∧ x ∈ ns := by
  have : v ∈ ns.map AV.int := by rw [h]; simp
  obtain ⟨x, hx, e⟩ := List.mem_map.mp this
  exact ⟨x, e.symm, hx⟩
theorem RV_ref (a : Addr) : RV (.ref a) (.ref a) := rfl
theorem foldl_len (sep : Str) : ∀ (ls : List Str) (n : Nat), ls.foldl (fun x1 x2 => x1 + x2.length + sep.length) n = n + (ls.map Str.length).sum + ls.length * sep.length
  | [], n => by simp
  | x :: r, n => by rw [List.foldl_cons, foldl_len sep r]; simp only [List.map_cons, List.sum_cons, List.length_cons, Nat.succ_mul]; omega
theorem joinOk_tx {sep : List Nat} {ls : List (List Nat)} (h : (ls.map List.length).sum + ls.length * sep.length ≤ 1000000) : JoinOk (tx sep) (ls.map tx) = true := by
  unfold JoinOk Builtin.Str.tooLong
  rw [sizeLine_eq]
  have e : (ls.map tx).map Str.length = ls.map List.length := by rw [List.map_map]; exact List.map_congr_left fun l _ => tx_len l
  have := foldl_len (tx sep) (ls.map tx) 0
  rw [e] at this
  simp only [List.length_map, tx_len, Nat.zero_add] at this
  simp only [← Array.foldl_toList, this]
  simp
  omega
section
variable {C : Cx} {E : Value → Shared → Prop} {ρ : Loc} {σ : Sto} {Q : AV → Loc → Sto → Prop}
theorem t_join {sep : List Nat} {a : Addr} {ls : List (List Nat)} (hm : (a, AO.list (ls.map fun l => .str (tx l))) ∈ σ) (hz : (ls.map List.length).sum + ls.length * sep.length ≤ 1000000) (h : Q (.str (tx (joinL sep ls))) ρ σ) : ACall C E (.builtin "str.join") [.str (tx sep), .ref a] Q ρ σ :=
  b_join (xs := ls.map tx) (by simpa [List.map_map, Function.comp_def] using hm) (joinOk_tx hz) (by rw [tx_join]; exact h)
end
theorem pySl_to {α : Type} (xs : List α) {i : Int} (h : 0 ≤ i) : pySl xs none (some i) = xs.take i.toNat := by
  unfold pySl
  simp only [cLo, cHi, cAt, List.drop_zero, Nat.sub_zero]
  by_cases hi : i ≤ xs.length
  · have e : (max 0 (min (if i < 0 then i + (xs.length : Int) else i) xs.length)).toNat = i.toNat := by omega
    rw [e]
  · have e : (max 0 (min (if i < 0 then i + (xs.length : Int) else i) xs.length)).toNat = xs.length := by omega
    rw [e, List.take_of_length_le (Nat.le_refl _), List.take_of_length_le (by omega)]
end Mine
namespace Mine
open PySem PySem.W PySem.Spec PySem.Calls PyProof.Rows
theorem rl_map (env : Env) (x : Str) : ∀ names : List (Str × NameKind), (names.map fun (n, k) => if (k == NameKind.free && env.scope.kind == .function && env.kindOf n == some .cell) then (n, NameKind.cell) else (n, k)).lookup x =
    (names.lookup x).map fun k => if (k == NameKind.free && env.scope.kind == .function && env.kindOf x == some .cell) then NameKind.cell else k
  | [] => rfl
  | (n, k) :: r => by
    have ih := rl_map env x r
    have key : ∀ b : Bool, ((if b = true then (n, NameKind.cell) else (n, k)) : Str × NameKind) = (n, if b = true then NameKind.cell else k) := by intro b; cases b <;> rfl
    rw [List.map_cons]
    show List.lookup x ((if (k == NameKind.free && env.scope.kind == .function && env.kindOf n == some .cell) = true then (n, NameKind.cell) else (n, k)) :: _) = _
    rw [key]
    by_cases e : x = n
    · subst e
      simp only [List.lookup_cons_self, Option.map_some]
    · have : (x == n) = false := beq_eq_false_iff_ne.mpr e
      simp only [List.lookup_cons, this]
      exact ih
theorem rl_same {scope : Scope} {env : Env} {x : Str} {k : NameKind} (h : scope.names.lookup x = some k) (hk : k ≠ .free) : (relabel scope env).names.lookup x = some k := by
  unfold relabel
  rw [rl_map, h]
  simp
  exact fun e => absurd e hk
section
variable {C : Cx} {E : Value → Shared → Prop} {ρ : Loc} {σ σ' : Sto} {x q : Str} {sc scope : Scope} {f c c' : Addr} {cd : Value} {cl clf : List (Str × Addr)} {a v : AV} {pos : Pos} {Q : AV → Loc → Sto → Prop}
theorem kn_local {ρ₂ : Loc} {env : Env} (hk : scope.kind = .function) (hx : scope.names.lookup x = some .local) (hm : (c, AO.ns ρ₂) ∈ σ) (hl : ρ₂.lookup x = some v) (h : Q v ρ σ) (hd : (x == ("__debug__" : Str)) = false) : AW RV C E (eval (.Name x pos) (compEnvC scope cl c env)) Q ρ σ :=
  cn_local hk (rl_same hx (by decide)) hm hl h hd
theorem ks_local {env : Env} {ρ₂ ρ₃ : Loc} {Q : Loc → Sto → Prop} (hk : scope.kind = .function) (hx : scope.names.lookup x = some .local) (hσ : Pick (c, .ns ρ₂) σ σ') (hr : rset ρ₂ x a = ρ₃) (h : Q ρ ((c, .ns ρ₃) :: σ')) : ASt C E (compEnvC scope cl c env) x a Q ρ σ :=
  cs_local hk (rl_same hx (by decide)) hσ hr h
end
theorem ite_d {p : Prop} [Decidable p] {A B : Prop} (h1 : p → A) (h2 : ¬ p → B) : if decide p = true then A else B := by
  by_cases h : p
  · simp only [h, decide_true, if_true]; exact h1 h
  · simp only [h, decide_false, Bool.false_eq_true, if_false]; exact h2 h
theorem ite_nd {p : Prop} [Decidable p] {A B : Prop} (h1 : ¬ p → A) (h2 : p → B) : if (!decide p) = true then A else B := by
  by_cases h : p
  · simp only [h, decide_true, Bool.not_true, Bool.false_eq_true, if_false]; exact h2 h
  · simp only [h, decide_false, Bool.not_false, if_true]; exact h1 h
/-- the states of a range's iterator -/
abbrev rit (x : Int) (n : Nat) (i : Nat) : AO := riterO (x + (i : Nat)) ((n : Int) - (i : Nat))
theorem iter_rng {C : Cx} {x : Int} {n : Nat} (hh : C.A.handled = none) : Iter C (rit x n) (rng x n) (fun _ => True) := iter_range hh
theorem small_of {x y : Int} (h1 : -1000000000 ≤ x) (h2 : x ≤ 1000000000) (h3 : -1000000000 ≤ y) (h4 : y ≤ 1000000000) : Builtin.Range.small x y 1 = true := by
  unfold Builtin.Range.small Builtin.Range.rangeFitsLong
  rw [rangeSize_one]
  simp
  split <;> omega
theorem it_rng {C : Cx} {E : Value → Shared → Prop} {ρ : Loc} {σ : Sto} {a : Addr} {x y : Int} {n : Nat} {P : Addr → Loc → Sto → Prop} (hm : (a, rangeO x y) ∈ σ) (hn : (y - x).toNat = n) (h1 : -1000000000 ≤ x) (h2 : x ≤ 1000000000) (h3 : -1000000000 ≤ y) (h4 : y ≤ 1000000000) (h : ∀ I, P I ρ ((I, rit x n 0) :: σ)) : AIt C E (.ref a) P ρ σ :=
  it_range hm (small_of h1 h2 h3 h4) fun I => by
    have e : rit x n 0 = riterO x (if x < y then y - x else 0) := by
      show riterO (x + ((0 : Nat) : Int)) ((n : Int) - ((0 : Nat) : Int)) = _
      congr 1
      · omega
      · split <;> omega
    rw [← e]; exact h I
theorem rng_split {x : Int} {n : Nat} {d : List AV} {v : AV} {r : List AV} (h : rng x n = d ++ v :: r) : v = .int (x + (d.length : Nat)) ∧ d.length < n := by
  have hl := congrArg List.length h
  rw [rng_length] at hl
  simp at hl
  have h1 : (rng x n)[d.length]? = some v := by rw [h]; simp
  refine ⟨?_, by omega⟩
  have hlt : d.length < n := by omega
  simp [rng, hlt] at h1
  exact h1.symm
section
variable {C : Cx} {E : Value → Shared → Prop} {ρ : Loc} {σ : Sto} {Q : AV → Loc → Sto → Prop}
end
end Mine
namespace Mine
open PySem PySem.W PySem.Spec PySem.Calls PyProof.Rows
theorem rvs_ints : ∀ {vs : List Value} {ns : List Int}, IntsAre vs ns → RVs (ns.map .int) vs
  | _, _, .nil => .nil
  | _, _, .cons _ t h => .cons ⟨t, rfl⟩ (rvs_ints h)
def fdOf (K : Frag) (f : Addr) : FuncData := match K.lookup f with
  | some ⟨_, _, .func fd, _⟩ => fd
  | _ => default
def objOf (K : Frag) (f : Addr) : Obj := (K.lookup f).getD default
theorem fn_of {K : Frag} {p : Program} {n : String} {f : Addr} (h1 : nsIn K mainGlobals (Str.ofString n) = some (some (.ref f))) (h2 : keepIn K (.ref f) = true)
    (h3 : K.lookup f = some ⟨(objOf K f).cls, (objOf K f).dict, .func (fnX (Str.ofString n) (fdOf K f).qualname (fnArgs p n) (fnBody p n) (fnScope p n) [] .none .none .none (fdOf K f).pyModule none (fdOf K f).code .none), (objOf K f).slots⟩)
    (h4 : codeIn K (fdOf K f).code (fdOf K f).qualname = true) : Fn K p n f := ⟨h1, h2, _, _, _, _, _, _, h3, h4⟩
theorem bn_nil {K : Frag} : Bn K [] := fun _ h => nomatch h
theorem bn_cons {K : Frag} {n : String} {ns : List String} (h : nsIn K mainGlobals (Str.ofString n) = some none) (hr : Bn K ns) : Bn K (n :: ns) := fun m hm => by
  rcases List.mem_cons.mp hm with rfl | hm
  · exact h
  · exact hr m hm
end Mine
namespace Mine
def stripL (l : List Nat) : List Nat :=
  let l1 := if l.take 1 = [34] then l.drop 1 else l
  if 1 ≤ l1.length ∧ l1.drop (l1.length - 1) = [34] then l1.take (l1.length - 1) else l1
theorem drop_last_snoc (l : List Nat) (c : Nat) : (l ++ [c]).drop ((l ++ [c]).length - 1) = [c] := by simp
theorem take_last_snoc (l : List Nat) (c : Nat) : (l ++ [c]).take ((l ++ [c]).length - 1) = l := by simp
/-- the back half -/
def stripB (l1 : List Nat) : List Nat := if 1 ≤ l1.length ∧ l1.drop (l1.length - 1) = [34] then l1.take (l1.length - 1) else l1
theorem stripB_snoc (l : List Nat) : stripB (l ++ [34]) = l := by
  unfold stripB
  rw [if_pos ⟨by simp, drop_last_snoc l 34⟩, take_last_snoc]
theorem stripL_eq (l : List Nat) : stripL l = stripB (if l.take 1 = [34] then l.drop 1 else l) := rfl
end Mine
namespace Mine
open PySem
open PySem.Sre (M Frame Kept Wait Seen)

/-- the machine's own marks and loops -/
structure Dt where
  marks : Array (Option Nat)
  lastmark : Int
  lastindex : Int
  handed : Nat
  loops : Array Sre.Loop
  inner : Option Nat
def dt (m : M) : Dt := ⟨m.marks, m.lastmark, m.lastindex, m.handed, m.loops, m.inner⟩
def put (m : M) (d : Dt) (pc pos : Nat) (om : Bool) (sn : Seen) (an : Option Bool) : M :=
  { m with marks := d.marks, lastmark := d.lastmark, lastindex := d.lastindex, handed := d.handed, loops := d.loops, inner := d.inner, pc := pc, pos := pos, outermost := om, seen := sn, answer := an }

theorem runFor_succ (n : Nat) (m : M) : M.runFor (n + 1) m = if m.outcome.isSome then m else M.runFor n m.step := rfl
theorem runFor_done {m : M} (h : m.outcome.isSome = true) : ∀ n, M.runFor n m = m
  | 0 => rfl
  | n + 1 => by rw [runFor_succ, if_pos h]
theorem runFor_add (a b : Nat) (m : M) : M.runFor (a + b) m = M.runFor b (M.runFor a m) := by
  induction a generalizing m with
  | zero => rw [Nat.zero_add]; rfl
  | succ a ih =>
    rw [Nat.succ_add, runFor_succ, runFor_succ]
    by_cases h : m.outcome.isSome = true
    · rw [if_pos h, if_pos h, runFor_done h]
    · rw [if_neg h, if_neg h, ih]
theorem runFor_one {m : M} (h : m.outcome = none) : M.runFor 1 m = m.step := by
  unfold M.runFor
  simp [h, M.runFor]

/-- within N steps the machine is at m' -/
def RB (N : Nat) (m m' : M) : Prop := ∃ k, k ≤ N ∧ M.runFor k m = m'
theorem RB.refl {N : Nat} {m : M} : RB N m m := ⟨0, Nat.zero_le _, rfl⟩
theorem RB.trans {a b : Nat} {m m' m'' : M} (h : RB a m m') (h' : RB b m' m'') : RB (a + b) m m'' := by
  obtain ⟨k, hk, rfl⟩ := h
  obtain ⟨k', hk', rfl⟩ := h'
  exact ⟨k + k', by omega, runFor_add k k' m⟩
theorem RB.le {a b : Nat} {m m' : M} (h : RB a m m') (hab : a ≤ b) : RB b m m' := by
  obtain ⟨k, hk, e⟩ := h
  exact ⟨k, by omega, e⟩
theorem RB.step {m : M} (h : m.outcome = none) : RB 1 m m.step := ⟨1, Nat.le_refl _, runFor_one h⟩
theorem RB.next {a : Nat} {m m' m'' : M} (h : m.outcome = none) (e : m.step = m') (h' : RB a m' m'') : RB (a + 1) m m'' := by
  rw [Nat.add_comm]; exact (e ▸ RB.step h).trans h'

/-- the machine comes to its frames again with the answer b -/
def Ev (N : Nat) (m : M) (b : Bool) (d : Dt) : Prop := ∃ pc pos om sn, RB N m (put m d pc pos om sn (some b))
theorem Ev.le {a b : Nat} {m : M} {c : Bool} {d : Dt} (h : Ev a m c d) (hab : a ≤ b) : Ev b m c d := by
  obtain ⟨pc, pos, om, sn, h⟩ := h
  exact ⟨pc, pos, om, sn, h.le hab⟩
/-- what is like m but for place, marks and what has been seen -/
theorem Ev.next {a : Nat} {m : M} {d d' : Dt} {pc pos : Nat} {om : Bool} {sn : Seen} {b : Bool} (h : m.outcome = none) (e : m.step = put m d pc pos om sn none) (h' : Ev a (put m d pc pos om sn none) b d') : Ev (a + 1) m b d' := by
  obtain ⟨pc', pos', om', sn', h'⟩ := h'
  exact ⟨pc', pos', om', sn', RB.next h e h'⟩
theorem Ev.say {m : M} {d : Dt} {pc pos : Nat} {om : Bool} {sn : Seen} {b : Bool} (h : m.outcome = none) (e : m.step = put m d pc pos om sn (some b)) : Ev 1 m b d := ⟨pc, pos, om, sn, e ▸ RB.step h⟩

/-- ready to take a word of the code -/
structure Rdy (m : M) (op : Nat) : Prop where
  out : m.outcome = none
  ans : m.answer = none
  lt : m.pc < m.code.size
  op : m.code.getD m.pc 0 = op
section
variable {m : M} {a : Nat} {b : Bool} {d : Dt}
theorem op2 : Sre.ops[2]? = some .ANY := rfl
theorem op3 : Sre.ops[3]? = some .ANY_ALL := rfl
theorem op6 : Sre.ops[6]? = some .AT := rfl
theorem op13 : Sre.ops[13]? = some .IN := rfl
theorem op16 : Sre.ops[16]? = some .LITERAL := rfl
theorem op17 : Sre.ops[17]? = some .MARK := rfl
theorem op18 : Sre.ops[18]? = some .MAX_UNTIL := rfl
theorem op20 : Sre.ops[20]? = some .NOT_LITERAL := rfl
theorem op23 : Sre.ops[23]? = some .REPEAT := rfl
theorem op24 : Sre.ops[24]? = some .REPEAT_ONE := rfl
theorem step_exec (h : m.outcome = none) (ha : m.answer = none) (hl : m.pc < m.code.size) : m.step = m.exec := by
  unfold M.step
  simp [h, ha, hl]
theorem word_eq (m : M) (k : Nat) : m.word k = m.code.getD (m.pc + k) 0 := rfl
theorem word0 (m : M) : m.word 0 = m.code.getD m.pc 0 := rfl

theorem ev_success (R : Rdy m 1) (h : (m.outermost && ((m.wholeText && m.pos != m.lim) || (m.mustAdvance && m.pos == m.start))) = false) : Ev 1 m true { dt m with handed := m.pos } := by
  refine Ev.say (pc := m.pc) (pos := m.pos) (om := m.outermost) (sn := m.seen.add 1) R.out ?_
  rw [step_exec R.out R.ans R.lt]
  unfold M.exec
  rw [word0, R.op]
  show (if (m.outermost && ((m.wholeText && m.pos != m.lim) || (m.mustAdvance && m.pos == m.start))) = true then _ else _) = _
  rw [h]
  rfl
theorem ev_success_not (R : Rdy m 1) (h : (m.outermost && ((m.wholeText && m.pos != m.lim) || (m.mustAdvance && m.pos == m.start))) = true) : Ev 1 m false (dt m) := by
  refine Ev.say (pc := m.pc) (pos := m.pos) (om := m.outermost) (sn := m.seen.add 1) R.out ?_
  rw [step_exec R.out R.ans R.lt]
  unfold M.exec
  rw [word0, R.op]
  show (if (m.outermost && ((m.wholeText && m.pos != m.lim) || (m.mustAdvance && m.pos == m.start))) = true then _ else _) = _
  rw [h]
  rfl
/-- the word at i takes exactly the signs of p -/
def Acc (code : Array Nat) (i : Nat) (p : Nat → Bool) : Prop := ∀ c sn, ∃ sn', Sre.accepts code i c sn = .ok (p c, sn')
/-- the words that take one sign -/
def isItem (op : Nat) : Bool := [2, 3, 13, 16, 20].contains op
theorem ev_item {op : Nat} {p : Nat → Bool} (R : Rdy m op) (hi : isItem op = true) (A : Acc m.code m.pc p) (hp : m.pos < m.lim) (hy : p (m.text.getD m.pos 0) = true)
    (h : ∀ sn, Ev a (put m (dt m) (m.pc + Sre.itemWidth m.code m.pc) (m.pos + 1) m.outermost sn none) b d) : Ev (a + 1) m b d := by
  obtain ⟨sn', hacc⟩ := A (m.text.getD m.pos 0) (m.seen.add op)
  rw [hy] at hacc
  refine Ev.next (d := dt m) (pc := m.pc + Sre.itemWidth m.code m.pc) (pos := m.pos + 1) (om := m.outermost) (sn := sn') R.out ?_ (h sn')
  rw [step_exec R.out R.ans R.lt]
  have hlt : ¬ m.pos ≥ m.lim := by omega
  simp only [isItem, List.contains_cons, List.contains_nil, Bool.or_false, Bool.or_eq_true, beq_iff_eq] at hi
  rcases hi with rfl | rfl | rfl | rfl | rfl <;>
  · unfold M.exec
    rw [word0, R.op]
    simp only [op2, op3, op13, op16, op20, if_neg hlt, hacc]
    rw [show m.answer = none from R.ans]
    rfl
theorem ev_item_no {op : Nat} {p : Nat → Bool} (R : Rdy m op) (hi : isItem op = true) (A : Acc m.code m.pc p) (hn : m.pos < m.lim → p (m.text.getD m.pos 0) = false) : Ev 1 m false (dt m) := by
  obtain ⟨sn', hacc⟩ := A (m.text.getD m.pos 0) (m.seen.add op)
  by_cases hlt : m.pos ≥ m.lim
  · refine Ev.say (pc := m.pc) (pos := m.pos) (om := m.outermost) (sn := m.seen.add op) R.out ?_
    rw [step_exec R.out R.ans R.lt]
    simp only [isItem, List.contains_cons, List.contains_nil, Bool.or_false, Bool.or_eq_true, beq_iff_eq] at hi
    rcases hi with rfl | rfl | rfl | rfl | rfl <;>
    · unfold M.exec
      rw [word0, R.op]
      simp only [op2, op3, op13, op16, op20, if_pos hlt]
      rfl
  · have hp := hn (by omega)
    rw [hp] at hacc
    refine Ev.say (pc := m.pc) (pos := m.pos) (om := m.outermost) (sn := sn') R.out ?_
    rw [step_exec R.out R.ans R.lt]
    simp only [isItem, List.contains_cons, List.contains_nil, Bool.or_false, Bool.or_eq_true, beq_iff_eq] at hi
    rcases hi with rfl | rfl | rfl | rfl | rfl <;>
    · unfold M.exec
      rw [word0, R.op]
      simp only [op2, op3, op13, op16, op20, if_neg hlt, hacc]
      rfl
theorem ev_at_no {yes : Bool} (R : Rdy m 6) (ha : m.isAt (m.code.getD (m.pc + 1) 0) = .ok yes) (hy : yes = false) : Ev 1 m false (dt m) := by
  subst hy
  refine Ev.say (pc := m.pc) (pos := m.pos) (om := m.outermost) (sn := (m.seen.add 6).add (43 + m.code.getD (m.pc + 1) 0)) R.out ?_
  rw [step_exec R.out R.ans R.lt]
  unfold M.exec
  rw [word0, R.op]
  have e : ({ m with seen := m.seen.add 6 } : M).isAt (({ m with seen := m.seen.add 6 } : M).word 1) = .ok false := ha
  simp only [op6, e]
  rfl
/-- a mark set -/
def Dt.mark (d : Dt) (i pos : Nat) : Dt :=
  let cleared := if (i : Int) ≤ d.lastmark + 1 then d.marks
    else (List.range i).foldl (fun (a : Array (Option Nat)) (j : Nat) => if (j : Int) > d.lastmark then a.setIfInBounds j none else a) d.marks
  { d with marks := cleared.setIfInBounds i (some pos), lastmark := max d.lastmark i, lastindex := if i % 2 == 1 then (i / 2 + 1 : Nat) else d.lastindex }
end
end Mine
namespace Mine
open PySem
open PySem.Sre (M Frame Kept Wait Seen)
/-- what stands fast while a place is tried -/
structure Kc where
  code : Array Nat
  text : Array Nat
  lim : Nat
  start : Nat
  lastStart : Nat
  whole : Bool
  must : Bool
def kcOf (m : M) : Kc := ⟨m.code, m.text, m.lim, m.start, m.lastStart, m.wholeText, m.mustAdvance⟩
/-- the marks that count: the last one, and what they hold -/
structure Mk where
  lm : Int
  get : Nat → Option Nat
  nm : Nat
def Mk.At (k : Mk) (m : M) : Prop := m.lastmark = k.lm ∧ m.marks.size = k.nm ∧ (∀ i : Nat, (i : Int) ≤ k.lm → m.marks.getD i none = k.get i) ∧ -1 ≤ k.lm ∧ k.lm < k.nm
structure At (m : M) (K : Kc) (pc pos : Nat) (om : Bool) (inn : Option Nat) (L : Array Sre.Loop) (k : Mk) : Prop where
  kc : kcOf m = K
  pc : m.pc = pc
  pos : m.pos = pos
  om : m.outermost = om
  inn : m.inner = inn
  loops : m.loops = L
  mks : k.At m
  ans : m.answer = none
  out : m.outcome = none
/-- an end: its marks, and where the match ends -/
structure Rs where
  k : Mk
  hd : Nat
/-- the machine has come back to its frames with an answer -/
structure Res (m m' : M) (k : Mk) (r : Option Rs) : Prop where
  kc : kcOf m' = kcOf m
  frames : m'.frames = m.frames
  weight : m'.weight = m.weight
  out : m'.outcome = none
  ans : m'.answer = some r.isSome
  size : m'.marks.size = k.nm
  yes : ∀ x, r = some x → x.k.At m' ∧ m'.handed = x.hd
  no : r = none → (∀ i : Nat, (i : Int) ≤ k.lm → m'.marks.getD i none = k.get i) ∧ m'.loops = m.loops ∧ m'.inner = m.inner
/-- from here, within N steps and w of weight, the answer is r -/
def Ex (N w : Nat) (K : Kc) (pc pos : Nat) (om : Bool) (inn : Option Nat) (L : Array Sre.Loop) (k : Mk) (r : Option Rs) : Prop :=
  ∀ m, At m K pc pos om inn L k → m.weight + w ≤ 16777216 → ∃ m', RB N m m' ∧ Res m m' k r
section
variable {N w a : Nat} {K : Kc} {pc pos : Nat} {om : Bool} {inn : Option Nat} {L : Array Sre.Loop} {k k' : Mk} {r : Option Rs}
theorem Ex.le {N' w' : Nat} (h : Ex N w K pc pos om inn L k r) (hN : N ≤ N') (hw : w ≤ w') : Ex N' w' K pc pos om inn L k r := fun m hm hz => by
  obtain ⟨m', h1, h2⟩ := h m hm (by omega)
  exact ⟨m', h1.le hN, h2⟩
theorem At.code {m : M} (A : At m K pc pos om inn L k) : m.code = K.code := congrArg Kc.code A.kc
theorem At.text {m : M} (A : At m K pc pos om inn L k) : m.text = K.text := congrArg Kc.text A.kc
theorem At.lim {m : M} (A : At m K pc pos om inn L k) : m.lim = K.lim := congrArg Kc.lim A.kc
theorem At.rdy {m : M} {op : Nat} (A : At m K pc pos om inn L k) (hl : pc < K.code.size) (ho : K.code.getD pc 0 = op) : Rdy m op :=
  ⟨A.out, A.ans, by rw [A.code, A.pc]; exact hl, by rw [A.code, A.pc]; exact ho⟩
/-- one step to another place -/
theorem ex_goto {pc' pos' : Nat} (hm : ∀ i : Nat, (i : Int) ≤ k.lm → k'.get i = k.get i) (hlm : k.lm ≤ k'.lm) (hnm : k'.nm = k.nm)
    (st : ∀ m, At m K pc pos om inn L k → ∃ m', m.step = m' ∧ At m' K pc' pos' om inn L k' ∧ m'.frames = m.frames ∧ m'.weight = m.weight ∧ m'.loops = m.loops)
    (h : Ex a w K pc' pos' om inn L k' r) : Ex (a + 1) w K pc pos om inn L k r := fun m A hz => by
  obtain ⟨m', e, A', hf, hwt, hlp⟩ := st m A
  obtain ⟨m'', h1, R⟩ := h m' A' (by rw [hwt]; exact hz)
  refine ⟨m'', RB.next A.out e h1, ⟨R.kc.trans (A'.kc.trans A.kc.symm), R.frames.trans hf, R.weight.trans hwt, R.out, R.ans, by rw [R.size, hnm], R.yes, fun hr => ?_⟩⟩
  obtain ⟨n1, n2, n3⟩ := R.no hr
  exact ⟨fun i hi => (n1 i (by omega)).trans (hm i hi), n2.trans hlp, n3.trans (A'.inn.trans A.inn.symm)⟩
/-- one step to a no -/
theorem ex_no (st : ∀ m, At m K pc pos om inn L k → Ev 1 m false (dt m)) : Ex 1 0 K pc pos om inn L k none := fun m A hz => by
  obtain ⟨pc', pos', om', sn', h⟩ := st m A
  refine ⟨_, h, rfl, rfl, rfl, A.out, rfl, A.mks.2.1, (fun x e => by cases e), (fun _ => ⟨fun i hi => A.mks.2.2.1 i hi, rfl, rfl⟩)⟩
theorem put_at {m : M} {pc' pos' : Nat} {sn : Seen} (A : At m K pc pos om inn L k) : At (put m (dt m) pc' pos' m.outermost sn none) K pc' pos' om inn L k := ⟨A.kc, rfl, rfl, A.om, A.inn, A.loops, A.mks, rfl, A.out⟩
theorem ex_success (hl : pc < K.code.size) (ho : K.code.getD pc 0 = 1) (h : (om && ((K.whole && pos != K.lim) || (K.must && pos == K.start))) = false) : Ex 1 0 K pc pos om inn L k (some ⟨k, pos⟩) := fun m A hz => by
  have e : (m.outermost && ((m.wholeText && m.pos != m.lim) || (m.mustAdvance && m.pos == m.start))) = false := by
    rw [A.om, A.pos, A.lim, show m.wholeText = K.whole from congrArg Kc.whole A.kc, show m.mustAdvance = K.must from congrArg Kc.must A.kc, show m.start = K.start from congrArg Kc.start A.kc]; exact h
  obtain ⟨pc', pos', om', sn', h⟩ := ev_success (A.rdy hl ho) e
  exact ⟨_, h, ⟨rfl, rfl, rfl, A.out, rfl, A.mks.2.1, fun x hx => by cases hx; exact ⟨A.mks, A.pos⟩, fun e => by cases e⟩⟩
theorem ex_success_no (hl : pc < K.code.size) (ho : K.code.getD pc 0 = 1) (h : (om && ((K.whole && pos != K.lim) || (K.must && pos == K.start))) = true) : Ex 1 0 K pc pos om inn L k none :=
  ex_no fun m A => ev_success_not (A.rdy hl ho) (by rw [A.om, A.pos, A.lim, show m.wholeText = K.whole from congrArg Kc.whole A.kc, show m.mustAdvance = K.must from congrArg Kc.must A.kc, show m.start = K.start from congrArg Kc.start A.kc]; exact h)
theorem ex_item {op wd : Nat} {p : Nat → Bool} (hl : pc < K.code.size) (ho : K.code.getD pc 0 = op) (hi : isItem op = true) (hw : Sre.itemWidth K.code pc = wd) (Ac : Acc K.code pc p) (hp : pos < K.lim) (hy : p (K.text.getD pos 0) = true)
    (h : Ex a w K (pc + wd) (pos + 1) om inn L k r) : Ex (a + 1) w K pc pos om inn L k r :=
  ex_goto (fun _ _ => rfl) (Int.le_refl _) rfl (fun m A => by
    have R := A.rdy hl ho
    obtain ⟨sn', hacc⟩ := Ac (K.text.getD pos 0) (m.seen.add op)
    rw [hy] at hacc
    refine ⟨put m (dt m) (pc + wd) (pos + 1) m.outermost sn' none, ?_, put_at A, rfl, rfl, rfl⟩
    have hlt : ¬ m.pos ≥ m.lim := by rw [A.pos, A.lim]; omega
    rw [step_exec R.out R.ans R.lt]
    have hacc' : Sre.accepts m.code m.pc (m.text.getD m.pos 0) (m.seen.add op) = .ok (true, sn') := by rw [A.code, A.pc, A.text, A.pos]; exact hacc
    have hwd : Sre.itemWidth m.code m.pc = wd := by rw [A.code, A.pc]; exact hw
    have e1 := A.pc
    have e2 := A.pos
    subst e1 e2
    simp only [isItem, List.contains_cons, List.contains_nil, Bool.or_false, Bool.or_eq_true, beq_iff_eq] at hi
    rcases hi with rfl | rfl | rfl | rfl | rfl <;>
    · unfold M.exec
      rw [word0, R.op]
      simp only [op2, op3, op13, op16, op20, if_neg hlt, hacc', hwd]
      rw [show m.answer = none from R.ans]
      rfl) h
theorem ex_item_no {op : Nat} {p : Nat → Bool} (hl : pc < K.code.size) (ho : K.code.getD pc 0 = op) (hi : isItem op = true) (Ac : Acc K.code pc p) (hn : pos < K.lim → p (K.text.getD pos 0) = false) : Ex 1 0 K pc pos om inn L k none :=
  ex_no fun m A => ev_item_no (A.rdy hl ho) hi (by rw [A.code, A.pc]; exact Ac) (by rw [A.pos, A.lim, A.text]; exact hn)
theorem ex_at {what : Nat} (hl : pc < K.code.size) (ho : K.code.getD pc 0 = 6) (hw : K.code.getD (pc + 1) 0 = what)
    (ha : ∀ m : M, m.text = K.text → m.lim = K.lim → m.pos = pos → m.isAt what = .ok true) (h : Ex a w K (pc + 2) pos om inn L k r) : Ex (a + 1) w K pc pos om inn L k r :=
  ex_goto (fun _ _ => rfl) (Int.le_refl _) rfl (fun m A => by
    have R := A.rdy hl ho
    refine ⟨put m (dt m) (pc + 2) pos m.outermost ((m.seen.add 6).add (43 + what)) none, ?_, put_at A, rfl, rfl, rfl⟩
    rw [step_exec R.out R.ans R.lt]
    have e1 := A.pc
    have e2 := A.pos
    have e3 : m.word 1 = what := by rw [word_eq, A.code, e1]; exact hw
    unfold M.exec
    rw [word0, R.op]
    have e : ({ m with seen := m.seen.add 6 } : M).isAt (({ m with seen := m.seen.add 6 } : M).word 1) = .ok true := by
      show ({ m with seen := m.seen.add 6 } : M).isAt (m.word 1) = .ok true
      rw [e3]; exact ha _ A.text A.lim A.pos
    simp only [op6, e]
    rw [show ({ m with seen := m.seen.add 6 } : M).word 1 = what from e3]
    subst e1 e2
    rw [show m.answer = none from R.ans]
    rfl) h
theorem ex_at_no {what : Nat} (hl : pc < K.code.size) (ho : K.code.getD pc 0 = 6) (hw : K.code.getD (pc + 1) 0 = what)
    (ha : ∀ m : M, m.text = K.text → m.lim = K.lim → m.pos = pos → m.isAt what = .ok false) : Ex 1 0 K pc pos om inn L k none :=
  ex_no fun m A => ev_at_no (A.rdy hl ho) (ha m A.text A.lim A.pos ▸ by rw [A.code, A.pc, hw]) rfl
/-- a mark set -/
def Mk.set (k : Mk) (i pos : Nat) : Mk := ⟨max k.lm i, fun j => if j = i then some pos else if (j : Int) ≤ k.lm then k.get j else none, k.nm⟩
theorem getD_set_ne {α : Type} {a : Array α} {i j : Nat} {x d : α} (h : i ≠ j) : (a.setIfInBounds i x).getD j d = a.getD j d := by
  rw [Array.getD_eq_getD_getElem?, Array.getD_eq_getD_getElem?, Array.getElem?_setIfInBounds_ne h]
theorem fold_clear (lm : Int) : ∀ (l : List Nat) (a : Array (Option Nat)), (l.foldl (fun (a : Array (Option Nat)) (j : Nat) => if (j : Int) > lm then a.setIfInBounds j none else a) a).size = a.size ∧
    ∀ j : Nat, (l.foldl (fun (a : Array (Option Nat)) (j : Nat) => if (j : Int) > lm then a.setIfInBounds j none else a) a).getD j none = if j ∈ l ∧ (j : Int) > lm then none else a.getD j none
  | [], a => by simp
  | i :: l, a => by
    rw [List.foldl_cons]
    obtain ⟨h1, h2⟩ := fold_clear lm l (if (i : Int) > lm then a.setIfInBounds i none else a)
    refine ⟨by rw [h1]; split <;> simp, fun j => ?_⟩
    rw [h2 j]
    by_cases hi : (i : Int) > lm
    · simp only [hi, if_true]
      by_cases hj : j ∈ l ∧ (j : Int) > lm
      · rw [if_pos hj, if_pos ⟨.tail _ hj.1, hj.2⟩]
      · rw [if_neg hj]
        by_cases e : j = i
        · subst e
          rw [if_pos ⟨.head _, hi⟩]
          simp [Array.getD, Array.getElem_setIfInBounds]
        · have hne : ¬ (j ∈ i :: l ∧ (j : Int) > lm) := by
            rintro ⟨h, h'⟩
            rcases List.mem_cons.mp h with h | h
            · exact e h
            · exact hj ⟨h, h'⟩
          rw [if_neg hne]
          exact getD_set_ne (Ne.symm e)
    · simp only [hi, if_false]
      by_cases hj : j ∈ l ∧ (j : Int) > lm
      · rw [if_pos hj, if_pos ⟨.tail _ hj.1, hj.2⟩]
      · rw [if_neg hj, if_neg]
        rintro ⟨h, h'⟩
        rcases List.mem_cons.mp h with h | h
        · subst h; exact hi h'
        · exact hj ⟨h, h'⟩
theorem ex_mark {i : Nat} (hl : pc < K.code.size) (ho : K.code.getD pc 0 = 17) (hw : K.code.getD (pc + 1) 0 = i) (hi : i < k.nm) (hgt : k.lm < i) (h : Ex a w K (pc + 2) pos om inn L (k.set i pos) r) : Ex (a + 1) w K pc pos om inn L k r :=
  ex_goto (k' := k.set i pos) (fun j hj => by show (if j = i then some pos else if (j : Int) ≤ k.lm then k.get j else none) = _; rw [if_neg (by omega), if_pos hj]) (by show k.lm ≤ max k.lm i; omega) rfl (fun m A => by
    have R := A.rdy hl ho
    refine ⟨put m ((dt m).mark i pos) (pc + 2) pos m.outermost (m.seen.add 17) none, ?_, ?_, rfl, rfl, rfl⟩
    · rw [step_exec R.out R.ans R.lt]
      have e1 := A.pc
      have e2 := A.pos
      have e3 : m.word 1 = i := by rw [word_eq, A.code, e1]; exact hw
      unfold M.exec
      rw [word0, R.op]
      simp only [op17]
      rw [show ({ m with seen := m.seen.add 17 } : M).word 1 = i from e3]
      unfold M.mark
      rw [show m.answer = none from R.ans]
      subst e1 e2
      rfl
    · obtain ⟨q1, q2, q3, q4, q5⟩ := A.mks
      refine ⟨A.kc, rfl, rfl, A.om, A.inn, A.loops, ⟨?_, ?_, fun j hj => ?_, ?_, ?_⟩, rfl, A.out⟩
      · show max m.lastmark i = max k.lm i
        rw [q1]
      · show (Dt.mark (dt m) i pos).marks.size = k.nm
        unfold Dt.mark
        simp only [Array.size_setIfInBounds]
        split
        · exact q2
        · rw [(fold_clear _ _ _).1]; exact q2
      · show (Dt.mark (dt m) i pos).marks.getD j none = if j = i then some pos else if (j : Int) ≤ k.lm then k.get j else none
        have hj' : (j : Int) ≤ max k.lm i := hj
        have hms : ∀ b : Array (Option Nat), b.size = k.nm → (b.setIfInBounds i (some pos)).getD j none = if j = i then some pos else b.getD j none := by
          intro b hb
          by_cases e : j = i
          · subst e
            simp [Array.getD, hb, hi]
          · rw [if_neg e]
            exact getD_set_ne (Ne.symm e)
        unfold Dt.mark
        simp only
        rw [hms]
        · by_cases e : j = i
          · rw [if_pos e, if_pos e]
          · rw [if_neg e, if_neg e]
            have hjl : j < i := by omega
            split
            · rename_i hc
              have hc' : (i : Int) ≤ m.lastmark + 1 := hc
              rw [q1] at hc'
              rw [if_pos (by omega)]
              exact q3 j (by omega)
            · rw [(fold_clear _ _ _).2]
              show (if j ∈ List.range i ∧ (j : Int) > m.lastmark then none else m.marks.getD j none) = _
              rw [q1]
              by_cases hjm : (j : Int) ≤ k.lm
              · rw [if_neg (by omega), if_pos hjm]; exact q3 j hjm
              · rw [if_pos ⟨List.mem_range.mpr hjl, by omega⟩, if_neg hjm]
        · split
          · exact q2
          · rw [(fold_clear _ _ _).1]; exact q2
      · show -1 ≤ max k.lm i
        omega
      · show max k.lm i < k.nm
        omega) h
end
end Mine
namespace Mine
open PySem
open PySem.Sre (M Wait Seen)
/-- how many signs of p stand in a row -/
def cnt (p : Nat → Bool) (text : Array Nat) : Nat → Nat → Nat
  | _, 0 => 0
  | pos, n + 1 => if p (text.getD pos 0) then cnt p text (pos + 1) n + 1 else 0
theorem cnt_le (p : Nat → Bool) (text : Array Nat) : ∀ pos n, cnt p text pos n ≤ n
  | _, 0 => Nat.le_refl _
  | pos, n + 1 => by unfold cnt; split; exact Nat.succ_le_succ (cnt_le p text _ n); exact Nat.zero_le _
theorem run_eq {code text : Array Nat} {i : Nat} {p : Nat → Bool} (A : Acc code i p) : ∀ n pos found sn, ∃ sn', Sre.run code text i n pos found sn = .ok (found + cnt p text pos n, sn')
  | 0, pos, found, sn => ⟨sn, rfl⟩
  | n + 1, pos, found, sn => by
    obtain ⟨s1, h1⟩ := A (text.getD pos 0) sn
    unfold Sre.run cnt
    rw [h1]
    cases hp : p (text.getD pos 0) with
    | true =>
      obtain ⟨s2, h2⟩ := run_eq A n (pos + 1) (found + 1) s1
      refine ⟨s2, ?_⟩
      show Sre.run code text i n (pos + 1) (found + 1) s1 = _
      rw [h2, if_pos rfl]
      congr 2
      omega
    | false => exact ⟨s1, rfl⟩
/-- the machine with its frame taken off -/
def popd (m : M) (f : Sre.Frame) (rest : List Sre.Frame) : M := { m with answer := none, frames := rest, weight := m.weight - (1 + f.kept.marks.size), pc := f.pc, pos := f.pos, outermost := f.outermost }
theorem step_resume {m : M} {f : Sre.Frame} {rest : List Sre.Frame} {b : Bool} (h : m.outcome = none) (ha : m.answer = some b) (hf : m.frames = f :: rest) : m.step = M.resume (popd m f rest) f b := by
  unfold M.step
  rw [if_neg (by rw [h]; exact Bool.false_ne_true)]
  simp only [ha, hf]
  rfl
/-- the machine with a frame put on -/
def pushd (m : M) (f : Sre.Frame) (target «from» : Nat) (om : Bool) : M := { m with frames := f :: m.frames, weight := m.weight + 1 + f.kept.marks.size, pc := target, pos := «from», handed := «from», outermost := om }
theorem attempt_eq {m : M} {f : Sre.Frame} {t p : Nat} {om : Bool} (h : m.weight + 1 + f.kept.marks.size ≤ 16777216) : m.attempt f t p om = pushd m f t p om := by
  unfold M.attempt
  rw [if_neg (by omega)]
  rfl
/-- what a frame keeps of the marks -/
structure KOk (kp : Sre.Kept) (k : Mk) : Prop where
  lm : kp.lastmark = k.lm
  size : kp.marks.size ≤ k.nm
  get : ∀ i, i < kp.marks.size → kp.marks.getD i none = k.get i
  lt : (kp.marks.size : Int) ≤ k.lm + 1
section
variable {N w a : Nat} {K : Kc} {pc pos : Nat} {om : Bool} {inn : Option Nat} {L : Array Sre.Loop} {k k' : Mk} {r : Option Rs}
theorem keep_ok {m : M} {b : Bool} (h : k.At m) : KOk (m.keep b) k := by
  obtain ⟨q1, q2, q3, q4, q5⟩ := h
  unfold M.keep
  cases b with
  | false => exact ⟨q1, Nat.zero_le _, fun i hi => absurd hi (Nat.not_lt_zero _), by show (0 : Int) ≤ _; omega⟩
  | true =>
    have hs : (m.marks.extract 0 (m.lastmark + 1).toNat).size = (k.lm + 1).toNat := by
      rw [Array.size_extract, q1, q2]; omega
    refine ⟨q1, ?_, fun i hi => ?_, ?_⟩
    · show (m.marks.extract 0 (m.lastmark + 1).toNat).size ≤ _
      rw [hs]; omega
    · have hi' : i < (m.marks.extract 0 (m.lastmark + 1).toNat).size := hi
      show (m.marks.extract 0 (m.lastmark + 1).toNat).getD i none = _
      rw [hs] at hi'
      rw [← q3 i (by omega), Array.getD_eq_getD_getElem?, Array.getD_eq_getD_getElem?, Array.getElem?_extract]
      rw [if_pos (by rw [q1, q2]; omega), Nat.zero_add]
    · show (((m.marks.extract 0 (m.lastmark + 1).toNat).size : Nat) : Int) ≤ _
      rw [hs]; omega
/-- marks put back -/
theorem back_ok {m : M} {kp : Sre.Kept} (h : KOk kp k) (hs : m.marks.size = k.nm) (hm : ∀ i : Nat, (i : Int) ≤ k.lm → m.marks.getD i none = k.get i) (h4 : -1 ≤ k.lm) (h5 : k.lm < k.nm) : k.At (m.putBack kp) := by
  have hmk : (m.putBack kp).marks.size = k.nm ∧ ∀ i : Nat, (i : Int) ≤ k.lm → (m.putBack kp).marks.getD i none = k.get i := by
    show (if kp.whole then kp.marks ++ m.marks.extract kp.marks.size m.marks.size else m.marks).size = k.nm ∧ ∀ i : Nat, (i : Int) ≤ k.lm → (if kp.whole then kp.marks ++ m.marks.extract kp.marks.size m.marks.size else m.marks).getD i none = k.get i
    split
    · have hsz := h.size
      refine ⟨by rw [Array.size_append, Array.size_extract, hs]; omega, fun i hi => ?_⟩
      rw [Array.getD_eq_getD_getElem?, Array.getElem?_append]
      split
      · rename_i hlt
        rw [← Array.getD_eq_getD_getElem?]; exact h.get i hlt
      · rename_i hge
        rw [← hm i hi, Array.getElem?_extract, Array.getD_eq_getD_getElem?]
        rw [if_pos (by rw [hs]; omega)]
        congr 2
        omega
    · exact ⟨hs, hm⟩
  exact ⟨h.lm, hmk.1, hmk.2, h4, h5⟩
/-- the place behind an attempt that failed -/
theorem back_at {m m' : M} {f : Sre.Frame} {t p : Nat} {om' : Bool} (A : At m K pc pos om inn L k) (hk : KOk f.kept k) (R : Res (pushd m f t p om') m' k none) :
    At ((popd m' f m.frames).putBack f.kept) K f.pc f.pos f.outermost inn L k ∧ ((popd m' f m.frames).putBack f.kept).frames = m.frames ∧ ((popd m' f m.frames).putBack f.kept).weight = m.weight := by
  obtain ⟨n1, n2, n3⟩ := R.no rfl
  refine ⟨⟨R.kc.trans A.kc, rfl, rfl, rfl, n3.trans A.inn, n2.trans A.loops, back_ok hk R.size n1 A.mks.2.2.2.1 A.mks.2.2.2.2, rfl, R.out⟩, rfl, ?_⟩
  show m'.weight - (1 + f.kept.marks.size) = m.weight
  rw [R.weight]
  show m.weight + 1 + f.kept.marks.size - (1 + f.kept.marks.size) = m.weight
  omega
theorem popd_weight {m m' : M} {f : Sre.Frame} {t p : Nat} {om' : Bool} {r : Option Rs} (R : Res (pushd m f t p om') m' k r) : (popd m' f m.frames).weight = m.weight := by
  show m'.weight - (1 + f.kept.marks.size) = m.weight
  rw [R.weight]
  show m.weight + 1 + f.kept.marks.size - (1 + f.kept.marks.size) = m.weight
  omega
/-- the place of an attempt -/
theorem push_at {m : M} {f : Sre.Frame} {t p : Nat} {om' : Bool} (A : At m K pc pos om inn L k) : At (pushd m f t p om') K t p om' inn L k :=
  ⟨A.kc, rfl, rfl, rfl, A.inn, A.loops, A.mks, A.ans, A.out⟩
/-- first from above -/
def down (tail : Nat → Option Rs) (least : Nat) : Nat → Option Rs
  | 0 => tail least
  | d + 1 => (tail (least + d + 1)).or (down tail least d)
theorem rep_go {skip least : Nat} {tail : Nat → Option Rs} (h1 : K.code.getD (pc + 1) 0 = skip) (h2 : K.code.getD (pc + 2) 0 = least) {kp : Sre.Kept} (hk : KOk kp k) :
    ∀ d, (∀ j, j ≤ d → Ex a w K (pc + 1 + skip) (pos + least + j) om inn L k (tail (least + j))) →
    ∀ m, At m K pc (pos + least + d) om inn L k → m.weight + (w + 1 + k.nm) ≤ 16777216 → ∃ m', RB ((d + 1) * (a + 1)) (m.afterRun .giveBack ((least + d : Nat) : Int) kp) m' ∧ Res m m' k (down tail least d) := by
  intro d
  induction d with
  | zero =>
    intro ht m A hz
    have hsz := hk.size
    have e1 : m.word 1 = skip := by rw [word_eq, A.code, A.pc]; exact h1
    have hz' : m.weight + 1 + kp.marks.size ≤ 16777216 := by omega
    unfold M.afterRun
    rw [attempt_eq (f := { m.frame .giveBack with count := ((least + 0 : Nat) : Int), kept := kp }) hz', e1, A.pc, A.pos, A.om]
    obtain ⟨m2, r2, R⟩ := ht 0 (Nat.le_refl _) _ (push_at (f := { m.frame .giveBack with count := ((least + 0 : Nat) : Int), kept := kp }) A) (by
      show m.weight + 1 + kp.marks.size + w ≤ _
      omega)
    cases hr : tail (least + 0) with
    | some x =>
      rw [hr] at R
      have st := step_resume R.out R.ans R.frames
      refine ⟨_, (r2.trans (RB.step R.out)).le (by omega), ?_⟩
      rw [st]
      obtain ⟨y1, y2⟩ := R.yes x rfl
      show Res m _ k (tail least)
      rw [show tail least = some x from hr]
      exact ⟨R.kc, rfl, popd_weight R, R.out, rfl, R.size, (fun z hz => by cases hz; exact ⟨y1, y2⟩), (fun e => by cases e)⟩
    | none =>
      rw [hr] at R
      have st := step_resume R.out R.ans R.frames
      obtain ⟨B1, B2, B3⟩ := back_at A (f := { m.frame .giveBack with count := ((least + 0 : Nat) : Int), kept := kp }) hk R
      refine ⟨_, (r2.trans (RB.step R.out)).le (by omega), ?_⟩
      rw [st]
      show Res m _ k (tail least)
      rw [show tail least = none from hr]
      have hw2 : (popd m2 { m.frame .giveBack with count := ((least + 0 : Nat) : Int), kept := kp } m.frames).word 2 = least := by
        rw [word_eq]
        show m2.code.getD (m.pc + 2) 0 = least
        rw [show m2.code = K.code from congrArg Kc.code (R.kc.trans A.kc), A.pc]; exact h2
      have e : M.resume (popd m2 { m.frame .giveBack with count := ((least + 0 : Nat) : Int), kept := kp } m.frames) { m.frame .giveBack with count := ((least + 0 : Nat) : Int), kept := kp } false = ((popd m2 { m.frame .giveBack with count := ((least + 0 : Nat) : Int), kept := kp } m.frames).putBack kp).say false := by
        show (if ((least + 0 : Nat) : Int) - 1 < ((popd m2 { m.frame .giveBack with count := ((least + 0 : Nat) : Int), kept := kp } m.frames).word 2 : Int) then _ else _) = _
        rw [hw2, if_pos (by omega)]
      show Res m (M.resume (popd m2 { m.frame .giveBack with count := ((least + 0 : Nat) : Int), kept := kp } m.frames) { m.frame .giveBack with count := ((least + 0 : Nat) : Int), kept := kp } false) k none
      rw [e]
      exact ⟨B1.kc.trans A.kc.symm, rfl, B3, R.out, rfl, B1.mks.2.1, (fun z hz => by cases hz), (fun _ => ⟨B1.mks.2.2.1, B1.loops.trans A.loops.symm, B1.inn.trans A.inn.symm⟩)⟩
  | succ d ih =>
    intro ht m A hz
    have hsz := hk.size
    have e1 : m.word 1 = skip := by rw [word_eq, A.code, A.pc]; exact h1
    have hz' : m.weight + 1 + kp.marks.size ≤ 16777216 := by omega
    unfold M.afterRun
    rw [attempt_eq (f := { m.frame .giveBack with count := ((least + (d + 1) : Nat) : Int), kept := kp }) hz', e1, A.pc, A.pos, A.om]
    obtain ⟨m2, r2, R⟩ := ht (d + 1) (Nat.le_refl _) _ (push_at (f := { m.frame .giveBack with count := ((least + (d + 1) : Nat) : Int), kept := kp }) A) (by
      show m.weight + 1 + kp.marks.size + w ≤ _
      omega)
    cases hr : tail (least + (d + 1)) with
    | some x =>
      rw [hr] at R
      have st := step_resume R.out R.ans R.frames
      refine ⟨_, (r2.trans (RB.step R.out)).le (by rw [Nat.succ_mul]; omega), ?_⟩
      rw [st]
      obtain ⟨y1, y2⟩ := R.yes x rfl
      show Res m _ k ((tail (least + d + 1)).or (down tail least d))
      rw [show tail (least + d + 1) = some x from hr]
      exact ⟨R.kc, rfl, popd_weight R, R.out, rfl, R.size, (fun z hz => by cases hz; exact ⟨y1, y2⟩), (fun e => by cases e)⟩
    | none =>
      rw [hr] at R
      have st := step_resume R.out R.ans R.frames
      obtain ⟨B1, B2, B3⟩ := back_at A (f := { m.frame .giveBack with count := ((least + (d + 1) : Nat) : Int), kept := kp }) hk R
      have hw2 : (popd m2 { m.frame .giveBack with count := ((least + (d + 1) : Nat) : Int), kept := kp } m.frames).word 2 = least := by
        rw [word_eq]
        show m2.code.getD (m.pc + 2) 0 = least
        rw [show m2.code = K.code from congrArg Kc.code (R.kc.trans A.kc), A.pc]; exact h2
      have e : M.resume (popd m2 { m.frame .giveBack with count := ((least + (d + 1) : Nat) : Int), kept := kp } m.frames) { m.frame .giveBack with count := ((least + (d + 1) : Nat) : Int), kept := kp } false = ({ (popd m2 { m.frame .giveBack with count := ((least + (d + 1) : Nat) : Int), kept := kp } m.frames).putBack kp with pos := m.pos - 1 } : M).afterRun .giveBack ((least + d : Nat) : Int) kp := by
        show (if ((least + (d + 1) : Nat) : Int) - 1 < ((popd m2 { m.frame .giveBack with count := ((least + (d + 1) : Nat) : Int), kept := kp } m.frames).word 2 : Int) then _ else _) = _
        rw [hw2, if_neg (by omega)]
        rw [show ((least + (d + 1) : Nat) : Int) - 1 = ((least + d : Nat) : Int) by omega]
        rfl
      obtain ⟨m3, r3, R3⟩ := ih (fun j hj => ht j (by omega)) ({ (popd m2 { m.frame .giveBack with count := ((least + (d + 1) : Nat) : Int), kept := kp } m.frames).putBack kp with pos := m.pos - 1 } : M)
        ⟨B1.kc, B1.pc.trans A.pc, by show m.pos - 1 = _; rw [A.pos]; omega, B1.om.trans A.om, B1.inn, B1.loops, B1.mks, B1.ans, B1.out⟩ (by
          show ((popd m2 { m.frame .giveBack with count := ((least + (d + 1) : Nat) : Int), kept := kp } m.frames).putBack kp).weight + _ ≤ _
          rw [B3]; exact hz)
      refine ⟨m3, (r2.trans (RB.next R.out (st.trans e) r3)).le (by rw [Nat.succ_mul (d + 1)]; omega), ?_⟩
      show Res m m3 k ((tail (least + d + 1)).or (down tail least d))
      rw [show tail (least + d + 1) = none from hr, Option.none_or]
      refine ⟨R3.kc.trans (B1.kc.trans A.kc.symm), R3.frames, R3.weight.trans B3, R3.out, R3.ans, R3.size, R3.yes, fun e => ?_⟩
      obtain ⟨n1, n2, n3⟩ := R3.no e
      exact ⟨n1, n2.trans (B1.loops.trans A.loops.symm), n3.trans (B1.inn.trans A.inn.symm)⟩
theorem ex_rep {skip least most d : Nat} {p : Nat → Bool} {tail : Nat → Option Rs} (hl : pc < K.code.size) (ho : K.code.getD pc 0 = 24) (h1 : K.code.getD (pc + 1) 0 = skip) (h2 : K.code.getD (pc + 2) 0 = least) (h3 : K.code.getD (pc + 3) 0 = most)
    (Ac : Acc K.code (pc + 4) p) (hpl : pos ≤ K.lim) (hn : cnt p K.text pos (min most (K.lim - pos)) = least + d)
    (ht : ∀ j, j ≤ d → Ex a w K (pc + 1 + skip) (pos + least + j) om inn L k (tail (least + j))) : Ex ((d + 1) * (a + 1) + 1) (w + 1 + k.nm) K pc pos om inn L k (down tail least d) := fun m A hz => by
  have R := A.rdy hl ho
  obtain ⟨sn', hrun⟩ := run_eq Ac (text := K.text) (min most (K.lim - pos)) pos 0 ((m.seen.add 24).add (K.code.getD (pc + 4) 0))
  rw [hn, Nat.zero_add] at hrun
  have hle := cnt_le p K.text pos (min most (K.lim - pos))
  rw [hn] at hle
  have hg := rep_go h1 h2 (keep_ok (b := inn.isSome) A.mks) d ht { m with seen := sn', pos := pos + (least + d) } ⟨A.kc, A.pc, by show pos + (least + d) = _; omega, A.om, A.inn, A.loops, A.mks, A.ans, A.out⟩ hz
  obtain ⟨m', r', R'⟩ := hg
  have e : m.step = ({ m with seen := sn', pos := pos + (least + d) } : M).afterRun .giveBack ((least + d : Nat) : Int) (m.keep inn.isSome) := by
    rw [step_exec R.out R.ans R.lt]
    have e1 := A.pc
    have e2 := A.pos
    unfold M.exec
    rw [word0, R.op]
    simp only [op24]
    have w2 : ({ m with seen := m.seen.add 24 } : M).word 2 = least := by show m.code.getD (m.pc + 2) 0 = least; rw [A.code, A.pc]; exact h2
    have w3 : ({ m with seen := m.seen.add 24 } : M).word 3 = most := by show m.code.getD (m.pc + 3) 0 = most; rw [A.code, A.pc]; exact h3
    have w4 : ({ m with seen := m.seen.add 24 } : M).word 4 = K.code.getD (pc + 4) 0 := by show m.code.getD (m.pc + 4) 0 = _; rw [A.code, A.pc]
    rw [w2, w3, w4]
    rw [if_neg (by rw [A.lim, A.pos]; omega)]
    rw [A.lim, A.pos, A.pc, A.code, A.text]
    rw [show ((K.lim : Int) - (pos : Int)).toNat = K.lim - pos by omega]
    simp only [Bool.false_eq_true, if_false, hrun]
    rw [if_neg (by omega)]
    subst e1 e2
    have e4 : m.inner = inn := A.inn
    subst e4
    rfl
  refine ⟨m', RB.next A.out e r', ⟨R'.kc, R'.frames, R'.weight, R'.out, R'.ans, R'.size, R'.yes, R'.no⟩⟩
theorem ex_rep_no {least most : Nat} {p : Nat → Bool} (hl : pc < K.code.size) (ho : K.code.getD pc 0 = 24) (h2 : K.code.getD (pc + 2) 0 = least) (h3 : K.code.getD (pc + 3) 0 = most)
    (Ac : Acc K.code (pc + 4) p) (hn : cnt p K.text pos (min most (K.lim - pos)) < least) : Ex 1 0 K pc pos om inn L k none := ex_no fun m A => by
  have R := A.rdy hl ho
  obtain ⟨sn', hrun⟩ := run_eq Ac (text := K.text) (min most (K.lim - pos)) pos 0 ((m.seen.add 24).add (K.code.getD (pc + 4) 0))
  rw [Nat.zero_add] at hrun
  have w2 : ({ m with seen := m.seen.add 24 } : M).word 2 = least := by show m.code.getD (m.pc + 2) 0 = least; rw [A.code, A.pc]; exact h2
  have w3 : ({ m with seen := m.seen.add 24 } : M).word 3 = most := by show m.code.getD (m.pc + 3) 0 = most; rw [A.code, A.pc]; exact h3
  have w4 : ({ m with seen := m.seen.add 24 } : M).word 4 = K.code.getD (pc + 4) 0 := by show m.code.getD (m.pc + 4) 0 = _; rw [A.code, A.pc]
  by_cases hroom : (least : Int) > (K.lim : Int) - pos
  · refine Ev.say (pc := m.pc) (pos := m.pos) (om := m.outermost) (sn := m.seen.add 24) R.out ?_
    rw [step_exec R.out R.ans R.lt]
    unfold M.exec
    rw [word0, R.op]
    simp only [op24]
    rw [w2, w3, w4]
    rw [if_pos (by rw [A.lim, A.pos]; exact hroom)]
    rfl
  · refine Ev.say (pc := m.pc) (pos := m.pos) (om := m.outermost) (sn := sn') R.out ?_
    rw [step_exec R.out R.ans R.lt]
    unfold M.exec
    rw [word0, R.op]
    simp only [op24]
    rw [w2, w3, w4]
    rw [if_neg (by rw [A.lim, A.pos]; exact hroom)]
    have hrun' : Sre.run m.code m.text (m.pc + 4) (min most ((m.lim : Int) - (m.pos : Int)).toNat) m.pos 0 ((m.seen.add 24).add (K.code.getD (pc + 4) 0)) = .ok (cnt p K.text pos (min most (K.lim - pos)), sn') := by
      rw [A.lim, A.pos, A.pc, A.code, A.text, show ((K.lim : Int) - (pos : Int)).toNat = K.lim - pos by omega]; exact hrun
    simp only [Bool.false_eq_true, if_false, hrun']
    rw [if_pos hn]
    rfl
end
end Mine
namespace Mine
open PySem
open PySem.Sre (M Wait Seen)
section
variable {N w a a' w' : Nat} {K : Kc} {pc pos : Nat} {om : Bool} {inn : Option Nat} {L : Array Sre.Loop} {k k' : Mk} {r : Option Rs}
theorem getD_modify_self {α : Type} {L : Array α} {i : Nat} {d : α} {f : α → α} (hi : i < L.size) : (L.modify i f).getD i d = f (L.getD i d) := by
  rw [Array.getD_eq_getD_getElem?, Array.getD_eq_getD_getElem?, Array.getElem?_modify, if_pos rfl, Array.getElem?_eq_getElem hi]
  rfl
theorem modify_back {L : Array Sre.Loop} {i : Nat} {l d : Sre.Loop} {c : Int} {p : Nat} (hi : i < L.size) (hL : L.getD i d = l) :
    ((L.modify i fun l => { l with count := c, began := some p }).modify i fun l' => { l' with began := l.began }).modify i (fun l' => { l' with count := l.count }) = L := by
  apply Array.ext_getElem?
  intro j
  rw [Array.getElem?_modify, Array.getElem?_modify, Array.getElem?_modify]
  by_cases e : i = j
  · subst e
    rw [if_pos rfl, if_pos rfl, if_pos rfl]
    rw [Array.getD_eq_getD_getElem?, Array.getElem?_eq_getElem hi] at hL
    rw [Array.getElem?_eq_getElem hi]
    have hL' : L[i] = l := hL
    rw [hL']
    rfl
  · rw [if_neg e, if_neg e, if_neg e]
/-- the loop over: on to what stands behind it. From m, at the word behind MAX_UNTIL -/
theorem tail_go {i : Nat} {l : Sre.Loop} {c : Int} (hi : i < L.size) (hL : L.getD i { pc := 0, outer := none } = l) (ht : Ex a w K pc pos om l.outer L k r) {m : M} (A : At m K pc pos om (some i) L k) (hz : m.weight + (w + 1) ≤ 16777216) :
    ∃ m', RB (a + 1) (m.afterLoop .maxTail i c fun _ => false) m' ∧ Res m m' k r := by
  obtain rfl := A.pc
  obtain rfl := A.pos
  obtain rfl := A.om
  have ho : (m.loopAt i).outer = l.outer := by
    show (m.loops.getD i _).outer = _
    rw [A.loops, hL]
  unfold M.afterLoop
  rw [ho]
  have A1 : At ({ m with inner := l.outer } : M) K m.pc m.pos m.outermost l.outer L k := ⟨A.kc, A.pc, A.pos, A.om, rfl, A.loops, A.mks, A.ans, A.out⟩
  rw [attempt_eq (by show m.weight + 1 + 0 ≤ _; omega)]
  obtain ⟨m2, r2, R⟩ := ht _ (push_at (f := { ({ m with inner := l.outer } : M).frame .maxTail with loop := i, count := c, kept := ({ m with inner := l.outer } : M).keep false }) A1) (by
    show m.weight + 1 + 0 + w ≤ _
    omega)
  have st := step_resume R.out R.ans R.frames
  refine ⟨_, (r2.trans (RB.step R.out)), ?_⟩
  rw [st]
  have hw := popd_weight R
  refine ⟨R.kc, rfl, hw, R.out, rfl, R.size, fun x hx => R.yes x hx, fun e => ?_⟩
  obtain ⟨n1, n2, n3⟩ := R.no e
  exact ⟨n1, n2, A.inn.symm⟩
theorem until_end_eq {m : M} {i most : Nat} {l : Sre.Loop} (hin : m.inner = some i) (hla : m.loopAt i = l) (h2 : m.code.getD (l.pc + 2) 0 = 0) (h3 : m.code.getD (l.pc + 3) 0 = most) (hc : -1 ≤ l.count)
    (hm : ((decide (l.count + 1 < (most : Int)) || most == Sre.maxRepeat) && l.began != some m.pos) = false) : m.until_ true = m.afterLoop .maxTail i (l.count + 1) fun _ => false := by
  unfold M.until_
  simp only [hin, hla, h2, h3]
  rw [if_neg (by omega)]
  simp only [Bool.not_true, Bool.false_eq_true, if_false, hm]
theorem until_more_eq {m : M} {i most : Nat} {l : Sre.Loop} (hin : m.inner = some i) (hla : m.loopAt i = l) (h2 : m.code.getD (l.pc + 2) 0 = 0) (h3 : m.code.getD (l.pc + 3) 0 = most) (hc : -1 ≤ l.count)
    (hm : ((decide (l.count + 1 < (most : Int)) || most == Sre.maxRepeat) && l.began != some m.pos) = true) : m.until_ true = m.round .maxMore i (l.count + 1) true (m.keep true) := by
  unfold M.until_
  simp only [hin, hla, h2, h3]
  rw [if_neg (by omega)]
  simp only [Bool.not_true, Bool.false_eq_true, if_false, hm, if_true]
theorem ex_until {i most : Nat} {l : Sre.Loop} {rb rt : Option Rs} (hl : pc < K.code.size) (ho : K.code.getD pc 0 = 18) (hi : i < L.size) (hL : L.getD i { pc := 0, outer := none } = l)
    (h2 : K.code.getD (l.pc + 2) 0 = 0) (h3 : K.code.getD (l.pc + 3) 0 = most) (hc : -1 ≤ l.count) (hm : ((decide (l.count + 1 < (most : Int)) || most == Sre.maxRepeat) && l.began != some pos) = true)
    (hb : Ex a w K (l.pc + 4) pos om (some i) (L.modify i fun x => { x with count := l.count + 1, began := some pos }) k rb)
    (ht : Ex a' w' K (pc + 1) pos om l.outer L k rt) : Ex (a + a' + 3) (max w w' + 1 + k.nm) K pc pos om (some i) L k (rb.or rt) := fun m A hz => by
  have R0 := A.rdy hl ho
  have A1 : At ({ m with seen := m.seen.add 18, pc := pc + 1 } : M) K (pc + 1) pos om (some i) L k := ⟨A.kc, rfl, A.pos, A.om, A.inn, A.loops, A.mks, A.ans, A.out⟩
  have A2 : At ({ m with seen := m.seen.add 18, pc := pc + 1, loops := L.modify i fun x => { x with count := l.count + 1, began := some pos } } : M) K (pc + 1) pos om (some i) (L.modify i fun x => { x with count := l.count + 1, began := some pos }) k := ⟨A.kc, rfl, A.pos, A.om, A.inn, rfl, A.mks, A.ans, A.out⟩
  have hko : KOk (({ m with seen := m.seen.add 18, pc := pc + 1 } : M).keep true) k := keep_ok A1.mks
  have hks := hko.size
  let f : Sre.Frame := { ({ m with seen := m.seen.add 18, pc := pc + 1 } : M).frame .maxMore with loop := i, count := l.count + 1, kept := ({ m with seen := m.seen.add 18, pc := pc + 1 } : M).keep true, began := l.began }
  have hfk : f.kept.marks.size ≤ k.nm := hks
  have e : m.step = pushd ({ m with seen := m.seen.add 18, pc := pc + 1, loops := L.modify i fun x => { x with count := l.count + 1, began := some pos } } : M) f (l.pc + 4) pos om := by
    rw [step_exec R0.out R0.ans R0.lt]
    unfold M.exec
    rw [word0, R0.op]
    simp only [op18]
    rw [A.pc]
    show M.until_ ({ m with seen := m.seen.add 18, pc := pc + 1 } : M) true = _
    have hla : ({ m with seen := m.seen.add 18, pc := pc + 1 } : M).loopAt i = l := by show m.loops.getD i _ = l; rw [A.loops]; exact hL
    rw [until_more_eq (m := ({ m with seen := m.seen.add 18, pc := pc + 1 } : M)) (l := l) (most := most) A.inn hla (by show m.code.getD (l.pc + 2) 0 = 0; rw [A.code]; exact h2) (by show m.code.getD (l.pc + 3) 0 = most; rw [A.code]; exact h3) hc (by show (_ && l.began != some m.pos) = true; rw [A.pos]; exact hm)]
    unfold M.round
    rw [hla]
    rw [attempt_eq (by
      show m.weight + 1 + f.kept.marks.size ≤ _
      omega)]
    have e1 := A.loops
    have e2 := A.pos
    have e3 := A.om
    subst e1 e2 e3
    rfl
  obtain ⟨m2, r2, R⟩ := hb _ (push_at (f := f) (t := l.pc + 4) (p := pos) (om' := om) A2) (by
    show m.weight + 1 + f.kept.marks.size + w ≤ _
    omega)
  cases hr : rb with
  | some x =>
    rw [hr] at R
    have st := step_resume R.out R.ans R.frames
    obtain ⟨y1, y2⟩ := R.yes x rfl
    refine ⟨_, (RB.next A.out e (r2.trans (RB.step R.out))).le (by omega), ?_⟩
    rw [st]
    have hw := popd_weight R
    exact ⟨R.kc, rfl, hw, R.out, rfl, R.size, (fun z hz => by cases hz; exact ⟨y1, y2⟩), (fun e => by cases e)⟩
  | none =>
    rw [hr] at R
    have st := step_resume R.out R.ans R.frames
    obtain ⟨B1, B2, B3⟩ := back_at A2 (f := f) hko R
    have hB : ∀ m3 : M, m3 = ((((popd m2 f m.frames).setLoop i fun l' => { l' with began := l.began }).putBack f.kept).setLoop i fun l' => { l' with count := l.count }) → At m3 K (pc + 1) pos om (some i) L k := by
      intro m3 e3
      subst e3
      refine ⟨B1.kc, rfl, A.pos, A.om, B1.inn, ?_, B1.mks, rfl, R.out⟩
      show ((m2.loops.modify i fun l' => { l' with began := l.began }).modify i fun l' => { l' with count := l.count }) = L
      rw [show m2.loops = _ from B1.loops]
      exact modify_back hi hL
    have e3 : M.resume (popd m2 f m.frames) f false = M.afterLoop ((((popd m2 f m.frames).setLoop i fun l' => { l' with began := l.began }).putBack f.kept).setLoop i fun l' => { l' with count := l.count }) .maxTail i (l.count + 1) fun _ => false := by
      show M.afterLoop ((((popd m2 f m.frames).setLoop i fun l' => { l' with began := l.began }).putBack f.kept).setLoop i fun l' => { l' with count := l.count + 1 - 1 }) .maxTail i (l.count + 1) (fun _ => false) = _
      rw [show l.count + 1 - 1 = l.count by omega]
    have hwt : ((((popd m2 f m.frames).setLoop i fun l' => { l' with began := l.began }).putBack f.kept).setLoop i fun l' => { l' with count := l.count }).weight = m.weight := B3
    obtain ⟨m4, r4, R4⟩ := tail_go (c := l.count + 1) hi hL ht (hB _ rfl) (by rw [hwt]; omega)
    refine ⟨m4, (RB.next A.out e (r2.trans (RB.next R.out (st.trans e3) r4))).le (by omega), ?_⟩
    rw [Option.none_or]
    refine ⟨R4.kc.trans (B1.kc.trans A.kc.symm), R4.frames, R4.weight.trans hwt, R4.out, R4.ans, R4.size, R4.yes, fun e => ?_⟩
    obtain ⟨n1, n2, n3⟩ := R4.no e
    exact ⟨n1, n2.trans ((hB _ rfl).loops.trans A.loops.symm), n3.trans ((hB _ rfl).inn.trans A.inn.symm)⟩
theorem ex_repeat {skip : Nat} (hl : pc < K.code.size) (ho : K.code.getD pc 0 = 23) (h1 : K.code.getD (pc + 1) 0 = skip)
    (h : Ex a w K (pc + 1 + skip) pos om (some L.size) (L.push { pc := pc, outer := inn }) k r) : Ex (a + 2) (w + 1) K pc pos om inn L k r := fun m A hz => by
  have R0 := A.rdy hl ho
  have A2 : At ({ m with seen := m.seen.add 23, loops := L.push { pc := pc, outer := inn }, inner := some L.size } : M) K pc pos om (some L.size) (L.push { pc := pc, outer := inn }) k := ⟨A.kc, A.pc, A.pos, A.om, rfl, rfl, A.mks, A.ans, A.out⟩
  let f : Sre.Frame := { ({ m with seen := m.seen.add 23, loops := L.push { pc := pc, outer := inn }, inner := some L.size } : M).frame .closeLoop with loop := L.size }
  have e : m.step = pushd ({ m with seen := m.seen.add 23, loops := L.push { pc := pc, outer := inn }, inner := some L.size } : M) f (pc + 1 + skip) pos om := by
    rw [step_exec R0.out R0.ans R0.lt]
    unfold M.exec
    rw [word0, R0.op]
    simp only [op23]
    rw [attempt_eq (by show m.weight + 1 + 0 ≤ _; omega)]
    have w1 : m.word 1 = skip := by rw [word_eq, A.code, A.pc]; exact h1
    have e0 := A.pc
    have e1 := A.loops
    have e2 := A.pos
    have e3 := A.om
    have e4 := A.inn
    subst e0 e1 e2 e3 e4 w1
    rfl
  obtain ⟨m2, r2, R⟩ := h _ (push_at (f := f) (t := pc + 1 + skip) (p := pos) (om' := om) A2) (by
    show m.weight + 1 + 0 + w ≤ _
    omega)
  have st := step_resume R.out R.ans R.frames
  refine ⟨_, (RB.next A.out e (r2.trans (RB.step R.out))).le (by omega), ?_⟩
  rw [st]
  have hw := popd_weight R
  refine ⟨R.kc, rfl, hw, R.out, rfl, R.size, fun x hx => R.yes x hx, fun e => ?_⟩
  obtain ⟨n1, n2, n3⟩ := R.no e
  refine ⟨n1, ?_, ?_⟩
  · show m2.loops.pop = m.loops
    rw [n2, A.loops]
    show (L.push _).pop = L
    exact Array.pop_push
  · show (m2.loops.getD L.size _).outer = m.inner
    rw [n2, A.inn]
    show ((L.push { pc := pc, outer := inn }).getD L.size _).outer = inn
    rw [Array.getD_eq_getD_getElem?, Array.getElem?_push_size]
    rfl
/-! ### the search -/
/-- the machine comes to its end: found from s with x, or not found -/
def Runs (N : Nat) (m : M) (nm : Nat) (res : Option (Nat × Rs)) : Prop :=
  ∃ m', RB N m m' ∧ m'.marks.size = nm ∧ match res with
    | none => m'.outcome = some .failed
    | some (s, x) => m'.outcome = some .matched ∧ m'.start = s ∧ m'.handed = x.hd ∧ x.k.At m'
theorem Runs.le {N N' : Nat} {m : M} {nm : Nat} {res : Option (Nat × Rs)} (h : Runs N m nm res) (hN : N ≤ N') : Runs N' m nm res := by
  obtain ⟨m', r, h⟩ := h
  exact ⟨m', r.le hN, h⟩
def Kc.at (K : Kc) (s : Nat) (must : Bool) : Kc := { K with start := s, must := must }
def k0 (nm : Nat) : Mk := ⟨-1, fun _ => none, nm⟩
/-- a machine between two starts -/
structure Idle (m : M) (K : Kc) (pc : Nat) (nm : Nat) : Prop where
  code : m.code = K.code
  text : m.text = K.text
  lim : m.lim = K.lim
  last : m.lastStart = K.lastStart
  whole : m.wholeText = K.whole
  must : m.mustAdvance = K.must
  pc : m.pc = pc
  inn : m.inner = none
  loops : m.loops = #[]
  frames : m.frames = []
  weight : m.weight = 0
  ans : m.answer = none
  out : m.outcome = none
  size : m.marks.size = nm
def firstFrom (r : Nat → Option Rs) : Nat → Nat → Option (Nat × Rs)
  | _, 0 => none
  | s, n + 1 => match r s with
    | some x => some (s, x)
    | none => firstFrom r (s + 1) n
theorem answer_end {m : M} (ho : m.outcome = none) (hf : m.frames = []) {b : Bool} (ha : m.answer = some b) : m.step = { m with outcome := some (if b then .matched else .failed) } := by
  unfold M.step
  rw [if_neg (by rw [ho]; exact Bool.false_ne_true)]
  simp only [ha, hf]
/-- one start tried -/
theorem at_go {m : M} {nm s : Nat} {first : Bool} (I : Idle m K pc nm) (hw : w + 1 ≤ 16777216) (h : Ex a w (K.at s K.must) pc s first none #[] (k0 nm) r) :
    ∃ m', RB a (m.attemptAt s first) m' ∧ m'.outcome = none ∧ m'.answer = some r.isSome ∧ m'.marks.size = nm ∧ m'.frames = [{ wait := .nextStart, pc := pc, pos := s, outermost := first }] ∧
      (∀ x, r = some x → m'.start = s ∧ m'.handed = x.hd ∧ x.k.At m') ∧ (r = none → Idle (popd m' { wait := .nextStart, pc := pc, pos := s, outermost := first } []) K pc nm) := by
  unfold M.attemptAt
  rw [attempt_eq (by show m.weight + 1 + 0 ≤ _; rw [I.weight]; omega)]
  rw [I.pc]
  have A : At ({ m with start := s, pos := s, lastmark := -1, lastindex := -1 } : M) (K.at s K.must) pc s m.outermost none #[] (k0 nm) := by
    refine ⟨?_, I.pc, rfl, rfl, I.inn, I.loops, ⟨rfl, I.size, fun i hi => absurd hi (by show ¬ (i : Int) ≤ -1; omega), by show (-1 : Int) ≤ -1; omega, by show (-1 : Int) < nm; omega⟩, I.ans, I.out⟩
    show kcOf _ = _
    unfold kcOf Kc.at
    simp only [I.code, I.text, I.lim, I.last, I.whole, I.must]
  obtain ⟨m2, r2, R⟩ := h _ (push_at (f := { wait := .nextStart, pc := pc, pos := s, outermost := first }) (t := pc) (p := s) (om' := first) A) (by
    show m.weight + 1 + 0 + w ≤ _
    rw [I.weight]; omega)
  refine ⟨m2, r2, R.out, R.ans, R.size, ?_, ?_⟩
  · rw [R.frames]
    show { wait := .nextStart, pc := pc, pos := s, outermost := first } :: m.frames = _
    rw [I.frames]
  · refine ⟨fun x hr => ?_, fun hr => ?_⟩
    · obtain ⟨y1, y2⟩ := R.yes x hr
      refine ⟨?_, y2, y1⟩
      exact congrArg Kc.start (R.kc.trans A.kc)
    · obtain ⟨n1, n2, n3⟩ := R.no hr
      have hkc := R.kc.trans A.kc
      refine ⟨congrArg Kc.code hkc, congrArg Kc.text hkc, congrArg Kc.lim hkc, congrArg Kc.lastStart hkc, congrArg Kc.whole hkc, congrArg Kc.must hkc, rfl, n3.trans A.inn, n2.trans A.loops, rfl, ?_, rfl, R.out, R.size⟩
      show m2.weight - (1 + 0) = 0
      rw [R.weight]
      show m.weight + 1 + 0 - (1 + 0) = 0
      rw [I.weight]
theorem Idle.must' {m : M} {nm : Nat} {b : Bool} (I : Idle m K pc nm) : Idle { m with mustAdvance := b } { K with must := b } pc nm := ⟨I.code, I.text, I.lim, I.last, I.whole, rfl, I.pc, I.inn, I.loops, I.frames, I.weight, I.ans, I.out, I.size⟩
/-- from s on, with no first set -/
theorem search_go {nm : Nat} {rs : Nat → Option Rs} (hfs : ∀ m : M, m.code = K.code → m.hasFirstSet = false) (hw : w + 1 ≤ 16777216) :
    ∀ n s first (m : M), Idle m K pc nm → K.lastStart + 1 = s + n → (0 < n) →
    (Ex a w (K.at s K.must) pc s first none #[] (k0 nm) (rs s)) →
    (∀ s', s < s' → s' ≤ K.lastStart → Ex a w (K.at s' false) pc s' false none #[] (k0 nm) (rs s')) →
    Runs (n * (a + 1) + 1) (m.attemptFrom s first) nm (firstFrom rs s n) := by
  intro n
  induction n generalizing K with
  | zero => intro s first m I hn h0; exact absurd h0 (Nat.lt_irrefl _)
  | succ n ih =>
    intro s first m I hn _ hx hxs
    have haf : m.attemptFrom s first = m.attemptAt s first := by
      unfold M.attemptFrom
      rw [hfs m I.code]
      rfl
    rw [haf]
    obtain ⟨m2, r2, ho, ha, hsz, hf, hres⟩ := at_go I hw hx
    have st := step_resume ho ha hf
    unfold firstFrom
    cases hr : rs s with
    | some x =>
      rw [hr] at ha st
      obtain ⟨y0, y1, y2⟩ := hres.1 x hr
      have e : m2.step = (popd m2 { wait := .nextStart, pc := pc, pos := s, outermost := first } []).say true := st
      have e2 := answer_end (m := (popd m2 { wait := .nextStart, pc := pc, pos := s, outermost := first } []).say true) ho rfl (b := true) rfl
      refine ⟨_, (r2.trans (RB.next ho e (RB.step ho))).le (by rw [Nat.succ_mul]; omega), ?_⟩
      rw [e2]
      exact ⟨hsz, rfl, y0, y1, y2⟩
    | none =>
      rw [hr] at ha st
      have hI : Idle (popd m2 { wait := .nextStart, pc := pc, pos := s, outermost := first } []) K pc nm := hres.2 hr
      cases n with
      | zero =>
        have e : m2.step = (popd m2 { wait := .nextStart, pc := pc, pos := s, outermost := first } []).say false := by
          rw [st]
          show (if s < (popd m2 { wait := .nextStart, pc := pc, pos := s, outermost := first } []).lastStart then _ else _) = _
          exact if_neg (by rw [hI.last]; omega)
        have e2 := answer_end (m := (popd m2 { wait := .nextStart, pc := pc, pos := s, outermost := first } []).say false) ho rfl (b := false) rfl
        refine ⟨_, (r2.trans (RB.next ho e (RB.step ho))).le (by omega), ?_⟩
        rw [e2]
        exact ⟨hsz, rfl⟩
      | succ n =>
        have e : m2.step = ({ popd m2 { wait := .nextStart, pc := pc, pos := s, outermost := first } [] with mustAdvance := false } : M).attemptFrom (s + 1) false := by
          rw [st]
          show (if s < (popd m2 { wait := .nextStart, pc := pc, pos := s, outermost := first } []).lastStart then _ else _) = _
          exact if_pos (by rw [hI.last]; omega)
        obtain ⟨m3, r3, h3⟩ := ih (K := { K with must := false }) hfs (s + 1) false _ hI.must' (by show K.lastStart + 1 = _; omega) (by omega) (hxs (s + 1) (by omega) (by omega)) (fun s' h1 h2 => hxs s' (by omega) h2)
        exact ⟨m3, (r2.trans (RB.next ho e r3)).le (by rw [Nat.succ_mul (n + 1)]; omega), h3⟩
end
end Mine
namespace Mine
open PySem PySem.W PySem.Spec PySem.Calls PyProof.Rows
theorem slot_re_search : Slot "re.Pattern" "search" "re.Pattern.search" :=
  .of (owner := "re.Pattern") (n := "search") (by rw [typeLookup_type, builtinLookup_eq_fast]; kernel_rfl) (by decide +kernel) (by decide +kernel) (by decide +kernel)
    (by first | exact .inl (by decide +kernel) | exact .inr (by decide +kernel)) (by rw [isSubtype_type]; kernel_rfl)
theorem type_re_search : typeOf (.builtin "re.Pattern.search") = pure (.type "method_descriptor") := by show builtinType _ = _; rw [builtinType_eq_fast]; kernel_rfl
theorem entry_re_search : entryFor table "re.Pattern.search" = some Builtin.«re.Pattern.search» := entryFor_of_tree (by kernel_rfl)
theorem slot_re_fullmatch : Slot "re.Pattern" "fullmatch" "re.Pattern.fullmatch" :=
  .of (owner := "re.Pattern") (n := "fullmatch") (by rw [typeLookup_type, builtinLookup_eq_fast]; kernel_rfl) (by decide +kernel) (by decide +kernel) (by decide +kernel)
    (by first | exact .inl (by decide +kernel) | exact .inr (by decide +kernel)) (by rw [isSubtype_type]; kernel_rfl)
theorem type_re_fullmatch : typeOf (.builtin "re.Pattern.fullmatch") = pure (.type "method_descriptor") := by show builtinType _ = _; rw [builtinType_eq_fast]; kernel_rfl
theorem entry_re_fullmatch : entryFor table "re.Pattern.fullmatch" = some Builtin.«re.Pattern.fullmatch» := entryFor_of_tree (by kernel_rfl)
theorem slot_re_group : Slot "re.Match" "group" "re.Match.group" :=
  .of (owner := "re.Match") (n := "group") (by rw [typeLookup_type, builtinLookup_eq_fast]; kernel_rfl) (by decide +kernel) (by decide +kernel) (by decide +kernel)
    (by first | exact .inl (by decide +kernel) | exact .inr (by decide +kernel)) (by rw [isSubtype_type]; kernel_rfl)
theorem type_re_group : typeOf (.builtin "re.Match.group") = pure (.type "method_descriptor") := by show builtinType _ = _; rw [builtinType_eq_fast]; kernel_rfl
theorem entry_re_group : entryFor table "re.Match.group" = some Builtin.«re.Match.group» := entryFor_of_tree (by kernel_rfl)
theorem args_re_search (a b : Value) : argsOk "re.Pattern.search" ⟨[a, b], []⟩ := by rfl
theorem args_re_group (a b : Value) : argsOk "re.Match.group" ⟨[a, b], []⟩ := by rfl
theorem args_re_fullmatch (a b : Value) : argsOk "re.Pattern.fullmatch" ⟨[a, b], []⟩ := by rfl
theorem plain_Pattern : PlainAttrs "re.Pattern" :=
  ⟨⟨"object.__getattribute__", by rw [typeLookup_type, builtinLookup_eq_fast]; kernel_rfl, by kernel_rfl⟩, by rw [typeLookup_type, builtinLookup_eq_fast]; kernel_rfl⟩
theorem plain_Match : PlainAttrs "re.Match" :=
  ⟨⟨"object.__getattribute__", by rw [typeLookup_type, builtinLookup_eq_fast]; kernel_rfl, by kernel_rfl⟩, by rw [typeLookup_type, builtinLookup_eq_fast]; kernel_rfl⟩
theorem match_no_bool : typeLookup (.type "re.Match") "__bool__" = pure none := by rw [typeLookup_type, builtinLookup_eq_fast]; kernel_rfl
theorem match_no_len : typeLookup (.type "re.Match") "__len__" = pure none := by rw [typeLookup_type, builtinLookup_eq_fast]; kernel_rfl
end Mine
namespace Mine
open PySem PySem.W PySem.Spec PySem.Calls PyProof.Rows
open PySem.Builtin.Re
theorem named3 (id f : String) (v : Value) : reNamed id f ["string", "pos", "endpos"] 1 [v] [] = pure [some v, none, none] := by rfl
section
variable {Mo : Model} {A : Around} {E : Value → Shared → Prop} {s : Shared}
theorem wp_drive {m' : Sre.M} (ho : m'.outcome.isSome = true) {Q : Sre.M → Shared → Prop} (hq : Q m' s) : ∀ turns (m : Sre.M) k, k < 4 * turns → Sre.M.runFor k m = m' → wpAny Mo A (reDrive turns m) Q E s
  | 0, m, k, h, _ => absurd h (by omega)
  | turns + 1, m, k, h, e => by
    unfold reDrive
    show wpAny Mo A (if (Sre.M.runFor 4 m).outcome.isSome = true then pure (Sre.M.runFor 4 m) else do rule "sre.turn"; reDrive turns (Sre.M.runFor 4 m)) Q E s
    by_cases h1 : (Sre.M.runFor 4 m).outcome.isSome = true
    · rw [if_pos h1]
      have : Sre.M.runFor 4 m = m' := by
        by_cases hk : k ≤ 4
        · have e4 := runFor_add k (4 - k) m
          rw [show k + (4 - k) = 4 by omega, e, runFor_done ho] at e4
          exact e4
        · have e4 := runFor_add 4 (k - 4) m
          rw [show 4 + (k - 4) = k by omega, e, runFor_done h1] at e4
          exact e4.symm
      rw [this]
      exact wpAny_pure hq
    · rw [if_neg h1]
      have hk : 4 < k := by
        rcases Nat.lt_or_ge 4 k with hk | hk
        · exact hk
        · exfalso
          apply h1
          have e4 := runFor_add k (4 - k) m
          rw [show k + (4 - k) = 4 by omega, e, runFor_done ho] at e4
          rw [e4]; exact ho
      refine wpAny_bind (wpAny_rule (wp_drive ho hq turns _ (k - 4) (by omega) ?_))
      rw [← runFor_add, show 4 + (k - 4) = k by omega, e]
theorem wp_tags {Q : PUnit → Shared → Prop} (hq : Q ⟨⟩ s) (c : Nat → Bool) (g : Nat → String) : ∀ l : List Nat, wpAny Mo A (forIn l PUnit.unit (fun i (_ : PUnit) => if c i = true then (do rule (g i); pure (ForInStep.yield PUnit.unit)) else (do pure PUnit.unit; pure (ForInStep.yield PUnit.unit)))) Q E s
  | [] => wpAny_pure hq
  | i :: l => by
    rw [List.forIn_cons]
    refine wpAny_bind ?_
    by_cases h : c i = true
    · rw [if_pos h]
      exact wpAny_bind (wpAny_rule (wpAny_pure (wp_tags hq c g l)))
    · rw [if_neg h]
      exact wpAny_pure (wp_tags hq c g l)
theorem wp_run_yes {m m' : Sre.M} {N : Nat} (h : RB N m m') (hN : N < 2 ^ 60) (ho : m'.outcome = some .matched) {Q : Option Sre.M → Shared → Prop} (hq : Q (some m') s) : wpAny Mo A (reRunToEnd m) Q E s := by
  obtain ⟨k, hk, e⟩ := h
  unfold reRunToEnd
  refine wpAny_bind (wp_drive (by rw [ho]; rfl) ?_ _ m k (by omega) e)
  refine wpAny_bind (wp_tags ?_ (fun i => m'.seen.has i) (fun i => Sre.names.getD i "") _)
  rw [ho]
  exact wpAny_pure hq
theorem wp_run_no {m m' : Sre.M} {N : Nat} (h : RB N m m') (hN : N < 2 ^ 60) (ho : m'.outcome = some .failed) {Q : Option Sre.M → Shared → Prop} (hq : Q none s) : wpAny Mo A (reRunToEnd m) Q E s := by
  obtain ⟨k, hk, e⟩ := h
  unfold reRunToEnd
  refine wpAny_bind (wp_drive (by rw [ho]; rfl) ?_ _ m k (by omega) e)
  refine wpAny_bind (wp_tags ?_ (fun i => m'.seen.has i) (fun i => Sre.names.getD i "") _)
  rw [ho]
  exact wpAny_pure hq
end
/-- a pattern of the top -/
structure Pat (K : Frag) (n : String) (pa : Addr) (code : List Nat) (groups : Nat) : Prop where
  glob : nsIn K mainGlobals (Str.ofString n) = some (some (.ref pa))
  obj : ∃ v0 v1 v3 v4 ca items sz, K.lookup pa = some { cls := .type "re.Pattern", data := .fields #[v0, v1, .int groups 0, v3, v4, .ref ca, .int 0 0] } ∧
    K.lookup ca = some { cls := .type "tuple", data := .seq items sz } ∧ (items.map reRawOf).map (·.toNat) = code.toArray
/-- a match object -/
def MObj (l : List Nat) (ta : Addr) (o : Obj) : Prop := ∃ t v1 v2 v3 v4, o = { cls := .type "re.Match", data := .fields #[.str (tx l) t, v1, v2, v3, v4, .ref ta] }
/-- the spans of the groups -/
def gsp (x : Mk) (g : Nat) : Option Nat × Option Nat := if ((2 * g + 1 : Nat) : Int) ≤ x.lm then (x.get (2 * g), x.get (2 * g + 1)) else (none, none)
def spans (groups s : Nat) (x : Rs) : List Int := (s : Int) :: (x.hd : Int) :: (List.range groups).flatMap fun g => match gsp x.k g with
  | (some b, some e) => [(b : Int), (e : Int)]
  | _ => [-1, -1]
def spOk (groups : Nat) (x : Mk) : Prop := ∀ g, g < groups → ∀ b e, gsp x g = (some b, some e) → b ≤ e
section
variable {C : Cx} {E : Value → Shared → Prop} {ρ : Loc} {σ : Sto} {Q : AV → Loc → Sto → Prop} {s : Shared}
theorem pat_at {n : String} {pa : Addr} {code : List Nat} {groups : Nat} (G : C.Gl) (P : Pat C.K n pa code groups) (hs : Rel C ρ σ s) :
    ∃ v0 v1 v3 v4 ca items sz, s.heap.get? pa = some { cls := .type "re.Pattern", data := .fields #[v0, v1, .int groups 0, v3, v4, .ref ca, .int 0 0] } ∧
    s.heap.get? ca = some { cls := .type "tuple", data := .seq items sz } ∧ (items.map reRawOf).map (·.toNat) = code.toArray := by
  obtain ⟨v0, v1, v3, v4, ca, items, sz, h1, h2, h3⟩ := P.obj
  obtain ⟨m, F, _⟩ := hs.fr
  exact ⟨v0, v1, v3, v4, ca, items, sz, F.keep _ _ (G.X _ _ h1), F.keep _ _ (G.X _ _ h2), h3⟩
theorem textOf_str {x : Str} {t : Tok} : reTextOf (.str x t) = pure (x.cps, 0) := rfl
theorem wp_rawItems {Mo : Model} {A : Around} {E : Value → Shared → Prop} {a : Addr} {o : Obj} {items n} {Q : Array Int → Shared → Prop} (ho : s.heap.get? a = some o) (hd : o.data = .seq items n) (h : Q (items.map reRawOf) s) : wpAny Mo A (reRawItems (.ref a)) Q E s := by
  unfold reRawItems
  exact wpAny_bind (wpAny_seqItems ho hd (wpAny_pure h))
theorem wp_target {Mo : Model} {A : Around} {E : Value → Shared → Prop} {id f : String} {n : String} {pa : Addr} {code : List Nat} {groups : Nat} (G : C.Gl) (P : Pat C.K n pa code groups) (hs : Rel C ρ σ s) {l : List Nat} {t : Tok} {Q : ReTarget → Shared → Prop}
    (hl : l.length < 2 ^ 60)
    (h : Q { pattern := .ref pa, string := .str (tx l) t, code := code.toArray, text := l.toArray, kind := 0, groups := groups, pos := 0, lim := l.length } s) : wpAny Mo A (reTarget id f ⟨[.ref pa, .str (tx l) t], []⟩) Q E s := by
  obtain ⟨v0, v1, v3, v4, ca, items, sz, h1, h2, h3⟩ := pat_at G P hs
  unfold reTarget
  show wpAny Mo A (reNamed id f ["string", "pos", "endpos"] 1 [.str (tx l) t] [] >>= _) Q E s
  rw [named3]
  refine wpAny_bind (wpAny_pure ?_)
  refine wpAny_bind (wpAny_pure ?_)
  refine wpAny_bind (wpAny_pure ?_)
  refine wpAny_bind (wpAny_fieldsOf h1 rfl ?_)
  rw [textOf_str]
  refine wpAny_bind (wpAny_pure ?_)
  refine wpAny_bind (wpAny_pure ?_)
  refine wpAny_bind (wp_rawItems h2 rfl ?_)
  rw [h3]
  refine wpAny_pure ?_
  have e1 : min (2 ^ 63 - 1 : Int).toNat (tx l).cps.size = l.length := by
    rw [show (tx l).cps.size = l.length from tx_len l]
    rw [show (2 ^ 63 - 1 : Int).toNat = 2 ^ 63 - 1 by decide]
    omega
  have e2 : min (0 : Int).toNat (tx l).cps.size = 0 := Nat.zero_min _
  show Q { pattern := .ref pa, string := .str (tx l) t, code := code.toArray, text := l.toArray, kind := 0, groups := ((groups : Int)).toNat, pos := min (0 : Int).toNat (tx l).cps.size, lim := min (2 ^ 63 - 1 : Int).toNat (tx l).cps.size } s
  rw [e1, e2]
  exact h
theorem flatMap_raw (groups : Nat) (m : Sre.M) (x : Mk) (hx : x.At m) : ∀ l : List Nat, (∀ g ∈ l, g < groups) → RVs ((l.flatMap fun g => match gsp x g with | (some b, some e) => [(b : Int), (e : Int)] | _ => [-1, -1]).map AV.int)
    (l.flatMap fun g => match if ((2 * g + 1 : Nat) : Int) ≤ m.lastmark then (m.marks.getD (2 * g) none, m.marks.getD (2 * g + 1) none) else (none, none) with | (some b, some e) => [rawInt b, rawInt e] | _ => [rawInt (-1), rawInt (-1)])
  | [], _ => .nil
  | g :: l, hg => by
    rw [List.flatMap_cons, List.flatMap_cons, List.map_append]
    refine RVs.append ?_ (flatMap_raw groups m x hx l fun g' h' => hg g' (.tail _ h'))
    have e : (if ((2 * g + 1 : Nat) : Int) ≤ m.lastmark then (m.marks.getD (2 * g) none, m.marks.getD (2 * g + 1) none) else (none, none)) = gsp x g := by
      unfold gsp
      rw [hx.1]
      by_cases hle : ((2 * g + 1 : Nat) : Int) ≤ x.lm
      · rw [if_pos hle, if_pos hle, hx.2.2.1 (2 * g) (by omega), hx.2.2.1 (2 * g + 1) hle]
      · rw [if_neg hle, if_neg hle]
    rw [e]
    rcases gsp x g with ⟨_ | b, _ | e⟩
    · exact .cons ⟨_, rfl⟩ (.cons ⟨_, rfl⟩ .nil)
    · exact .cons ⟨_, rfl⟩ (.cons ⟨_, rfl⟩ .nil)
    · exact .cons ⟨_, rfl⟩ (.cons ⟨_, rfl⟩ .nil)
    · exact .cons ⟨_, rfl⟩ (.cons ⟨_, rfl⟩ .nil)
theorem flatMap_len2 {α β : Type} {f : α → List β} (h : ∀ a, (f a).length = 2) : ∀ l : List α, (l.flatMap f).length = 2 * l.length
  | [] => rfl
  | a :: l => by rw [List.flatMap_cons, List.length_append, h, flatMap_len2 h l, List.length_cons]; omega
theorem wp_newMatch {Mo : Model} {A : Around} {E : Value → Shared → Prop} {pa : Value} {l : List Nat} {t : Tok} {groups pos lim st : Nat} {m : Sre.M} {x : Rs} (hst : m.start = st) (hh : m.handed = x.hd) (hx : x.k.At m) (hok : spOk groups x.k) (hg : groups ≤ 100) (hs : Rel C ρ σ s) {Q : Value → Shared → Prop}
    (h : ∀ ma ta s', Rel C ρ ((ma, .pred (MObj l ta)) :: (ta, .tuple ((spans groups st x).map .int)) :: σ) s' → Q (.ref ma) s') : wpAny Mo A (reNewMatch pa (.str (tx l) t) groups pos lim m) Q E s := by
  unfold reNewMatch
  dsimp only
  rw [if_neg]
  · refine wpAny_bind (wpAny_newTuple ?_ ?_)
    · refine wpAny_newObj_type (h _ _ _ (Rel.push (ao := .pred (MObj l s.heap.objs.size)) (hs.push (ao := .tuple ((spans groups st x).map .int)) ⟨_, _, ?_, rfl⟩ rfl s.toks) ⟨_, _, _, _, _, rfl⟩ rfl s.toks)) ?_
      · rw [hst, hh]
        exact .cons ⟨_, rfl⟩ (.cons ⟨_, rfl⟩ (flatMap_raw groups m x.k hx _ fun g hg => List.mem_range.mp hg))
      · show (6 : Nat) ≤ _
        decide
    · rw [List.length_cons, List.length_cons, flatMap_len2, List.length_range, sizeLine_eq]
      · omega
      · intro g
        split <;> rfl
  · rw [Bool.not_eq_true, List.any_eq_false]
    intro g hg
    have hg := List.mem_range.mp hg
    have hgs := hok g hg
    unfold gsp at hgs
    split
    · rename_i b e h1 h2
      by_cases hle : ((2 * g + 1 : Nat) : Int) ≤ m.lastmark
      · have hle' : ((2 * g + 1 : Nat) : Int) ≤ x.k.lm := by rw [← hx.1]; exact hle
        rw [if_pos hle'] at hgs
        have := hgs b e (by rw [← hx.2.2.1 (2 * g) (by omega), ← hx.2.2.1 (2 * g + 1) hle', h1, h2])
        simp; omega
      · simp; omega
    · simp
/-- a search that the machine has run -/
theorem b_search {n : String} {pa : Addr} {code : List Nat} {groups N : Nat} {l : List Nat} {res : Option (Nat × Rs)} (G : C.Gl) (P : Pat C.K n pa code groups) (hl : l.length < 2 ^ 60) (hg : groups ≤ 100) (hN : N < 2 ^ 60)
    (hr : Runs N (Sre.forSearch code.toArray l.toArray groups 0 l.length false) (2 * groups) res)
    (hno : res = none → Q .none ρ σ)
    (hyes : ∀ st x, res = some (st, x) → spOk groups x.k ∧ ∀ ma ta, Q (.ref ma) ρ ((ma, .pred (MObj l ta)) :: (ta, .tuple ((spans groups st x).map .int)) :: σ)) : ACall C E (.builtin "re.Pattern.search") [.ref pa, .str (tx l)] Q ρ σ := by
  intro vs hv s hs
  obtain ⟨v1, v2, rfl, rfl, t, rfl⟩ := RVs.two' hv
  obtain ⟨_, _, _, _, _, _, _, h1, _⟩ := pat_at G P hs
  refine wpAny_call_entry slot_re_search ⟨_, h1, rfl⟩ entry_re_search ?_ (args_re_search _ _)
  unfold Builtin.«re.Pattern.search»
  refine wpAny_bind (wp_target G P hs hl ?_)
  unfold reAnswer
  obtain ⟨m', r, hsz, hres⟩ := hr
  cases res with
  | none =>
    refine wpAny_bind (wp_run_no r hN hres ?_)
    exact wpAny_pure ⟨_, rfl, .none, ρ, σ, rfl, hs, hno rfl⟩
  | some sx =>
    obtain ⟨st, x⟩ := sx
    obtain ⟨ho, h2, h3, h4⟩ := hres
    obtain ⟨hok, hq⟩ := hyes st x rfl
    refine wpAny_bind (wp_run_yes r hN ho ?_)
    refine wpAny_bind (wp_newMatch h2 h3 h4 hok hg hs fun ma ta s' hs' => ?_)
    exact wpAny_pure ⟨_, rfl, .ref ma, ρ, _, rfl, hs', hq ma ta⟩
theorem b_fullmatch {n : String} {pa : Addr} {code : List Nat} {groups N : Nat} {l : List Nat} {res : Option (Nat × Rs)} (G : C.Gl) (P : Pat C.K n pa code groups) (hl : l.length < 2 ^ 60) (hg : groups ≤ 100) (hN : N < 2 ^ 60)
    (hr : Runs N (Sre.forMatch code.toArray l.toArray groups 0 l.length true false) (2 * groups) res)
    (hno : res = none → Q .none ρ σ)
    (hyes : ∀ st x, res = some (st, x) → spOk groups x.k ∧ ∀ ma ta, Q (.ref ma) ρ ((ma, .pred (MObj l ta)) :: (ta, .tuple ((spans groups st x).map .int)) :: σ)) : ACall C E (.builtin "re.Pattern.fullmatch") [.ref pa, .str (tx l)] Q ρ σ := by
  intro vs hv s hs
  obtain ⟨v1, v2, rfl, rfl, t, rfl⟩ := RVs.two' hv
  obtain ⟨_, _, _, _, _, _, _, h1, _⟩ := pat_at G P hs
  refine wpAny_call_entry slot_re_fullmatch ⟨_, h1, rfl⟩ entry_re_fullmatch ?_ (args_re_fullmatch _ _)
  unfold Builtin.«re.Pattern.fullmatch»
  refine wpAny_bind (wp_target G P hs hl ?_)
  unfold reAnswer
  obtain ⟨m', r, hsz, hres⟩ := hr
  cases res with
  | none =>
    refine wpAny_bind (wp_run_no r hN hres ?_)
    exact wpAny_pure ⟨_, rfl, .none, ρ, σ, rfl, hs, hno rfl⟩
  | some sx =>
    obtain ⟨st, x⟩ := sx
    obtain ⟨ho, h2, h3, h4⟩ := hres
    obtain ⟨hok, hq⟩ := hyes st x rfl
    refine wpAny_bind (wp_run_yes r hN ho ?_)
    refine wpAny_bind (wp_newMatch h2 h3 h4 hok hg hs fun ma ta s' hs' => ?_)
    exact wpAny_pure ⟨_, rfl, .ref ma, ρ, _, rfl, hs', hq ma ta⟩
theorem m_search {n : String} {pa : Addr} {code : List Nat} {groups : Nat} {pl : Sem Bool} {R : Value → List AV → Loc → Sto → Prop} (G : C.Gl) (P : Pat C.K n pa code groups) (h : R (.builtin "re.Pattern.search") [.ref pa] ρ σ) : AMeth C E (.ref pa) (Str.ofString "search") pl R ρ σ := by
  intro v rv s hs
  cases rv
  obtain ⟨_, _, _, _, _, _, _, h1, _⟩ := pat_at G P hs
  exact getMethod_builtin ⟨_, h1, rfl⟩ plain_Pattern slot_re_search type_re_search (fun a e => by cases e; exact ⟨_, h1, rfl⟩) ⟨[.ref pa], _, _, .one rfl, hs, h⟩
theorem m_fullmatch {n : String} {pa : Addr} {code : List Nat} {groups : Nat} {pl : Sem Bool} {R : Value → List AV → Loc → Sto → Prop} (G : C.Gl) (P : Pat C.K n pa code groups) (h : R (.builtin "re.Pattern.fullmatch") [.ref pa] ρ σ) : AMeth C E (.ref pa) (Str.ofString "fullmatch") pl R ρ σ := by
  intro v rv s hs
  cases rv
  obtain ⟨_, _, _, _, _, _, _, h1, _⟩ := pat_at G P hs
  exact getMethod_builtin ⟨_, h1, rfl⟩ plain_Pattern slot_re_fullmatch type_re_fullmatch (fun a e => by cases e; exact ⟨_, h1, rfl⟩) ⟨[.ref pa], _, _, .one rfl, hs, h⟩
theorem m_group {ma ta : Addr} {l : List Nat} {pl : Sem Bool} {R : Value → List AV → Loc → Sto → Prop} (hm : (ma, AO.pred (MObj l ta)) ∈ σ) (h : R (.builtin "re.Match.group") [.ref ma] ρ σ) : AMeth C E (.ref ma) (Str.ofString "group") pl R ρ σ := by
  intro v rv s hs
  cases rv
  obtain ⟨o, e, _, _, t, _, _, _, _, rfl⟩ := hs.led _ hm
  exact getMethod_builtin ⟨_, e, rfl⟩ plain_Match slot_re_group type_re_group (fun a e' => by cases e'; exact ⟨_, e, rfl⟩) ⟨[.ref ma], _, _, .one rfl, hs, h⟩
/-- a match is true -/
theorem tr_match {ma ta : Addr} {l : List Nat} {QB : Bool → Loc → Sto → Prop} (hm : (ma, AO.pred (MObj l ta)) ∈ σ) (h : QB true ρ σ) : ATr C E (.ref ma) QB ρ σ := by
  intro v rv s hs
  cases rv
  obtain ⟨o, e, _, _, t, _, _, _, _, rfl⟩ := hs.led _ hm
  unfold truthy
  have hT : s.TypeIs (.ref ma) "re.Match" := ⟨_, e, rfl⟩
  refine wpAny_bind ?_
  unfold callSpecial?
  refine wpAny_bind (wpAny_specialOf hT match_no_bool ?_)
  refine wpAny_pure ?_
  refine wpAny_bind (wpAny_specialOf hT match_no_len ?_)
  exact wpAny_pure ⟨true, ρ, σ, rfl, hs, h⟩
theorem rawOf_ints : ∀ {ns : List Int} {vs : List Value}, RVs (ns.map AV.int) vs → vs.map reRawOf = ns
  | [], _, .nil => rfl
  | n :: ns, _, .cons ⟨t, e⟩ h => by subst e; rw [List.map_cons, rawOf_ints h]; rfl
theorem wp_groupNumber {Mo : Model} {A : Around} {E : Value → Shared → Prop} {x : ReFound} {g : Nat} {t : Tok} {Q : Nat → Shared → Prop} (hg : 2 * g < x.spans.size) (h : Q g s) : wpAny Mo A (reGroupNumber x (.int g t)) Q E s := by
  unfold reGroupNumber
  refine wpAny_bind (wpAny_pure ?_)
  dsimp only
  rw [if_pos (show (some (g : Int)).isSome = true from rfl)]
  refine wpAny_bind (wpAny_pure ?_)
  rw [if_neg (by rw [Bool.or_eq_true, decide_eq_true_eq, decide_eq_true_eq]; omega)]
  exact wpAny_pure h
theorem getD_arr {α : Type} (l : List α) (i : Nat) (d : α) : l.toArray.getD i d = l.getD i d := by
  rw [Array.getD_eq_getD_getElem?, List.getD_eq_getElem?_getD, List.getElem?_toArray]
theorem b_group {ma ta : Addr} {l : List Nat} {sp : List Int} {g : Nat} (hm : (ma, AO.pred (MObj l ta)) ∈ σ) (ht : (ta, AO.tuple (sp.map .int)) ∈ σ) (hg : 2 * g < sp.length) (hl : l.length ≤ sizeLine)
    (hn : (sp.getD (2 * g) (-1) < 0 ∨ sp.getD (2 * g + 1) (-1) < 0) → Q .none ρ σ) (hy : 0 ≤ sp.getD (2 * g) (-1) → 0 ≤ sp.getD (2 * g + 1) (-1) → Q (.str (tx ((l.take (sp.getD (2 * g + 1) (-1)).toNat).drop (sp.getD (2 * g) (-1)).toNat))) ρ σ) :
    ACall C E (.builtin "re.Match.group") [.ref ma, .int g] Q ρ σ := by
  intro vs hv s hs
  obtain ⟨v1, v2, rfl, rfl, t, rfl⟩ := RVs.two' hv
  obtain ⟨o, e, _, _, t', _, _, _, _, rfl⟩ := hs.led _ hm
  obtain ⟨o2, e2, _, _, us, n2, r2, rfl⟩ := hs.led _ ht
  refine wpAny_call_entry slot_re_group ⟨_, e, rfl⟩ entry_re_group ?_ (args_re_group _ _)
  unfold Builtin.«re.Match.group»
  refine wpAny_bind (wpAny_pure ?_)
  dsimp only
  unfold reFound
  refine wpAny_bind (wpAny_bind (wpAny_fieldsOf e rfl ?_))
  refine wpAny_bind (wp_rawItems e2 rfl ?_)
  refine wpAny_pure ?_
  rw [List.map_toArray, rawOf_ints r2]
  refine wpAny_bind (wp_groupNumber (by rw [List.size_toArray]; exact hg) ?_)
  unfold reGroupText
  simp only [getD_arr]
  by_cases hneg : sp.getD (2 * g) (-1) < 0 ∨ sp.getD (2 * g + 1) (-1) < 0
  · rw [if_pos (by simpa using hneg)]
    exact wpAny_bind (wpAny_pure (wpAny_pure ⟨_, rfl, .none, ρ, σ, rfl, hs, hn hneg⟩))
  · rw [if_neg (by simpa using hneg)]
    refine wpAny_bind (wpAny_bind ?_)
    show wpAny _ _ (reTextOf (.str (tx l) t')) _ _ _
    rw [textOf_str]
    refine wpAny_pure ?_
    show wpAny _ _ (mkStr ⟨(tx l).cps.extract (sp.getD (2 * g) (-1)).toNat (sp.getD (2 * g + 1) (-1)).toNat⟩) _ _ _
    have ex : (⟨(tx l).cps.extract (sp.getD (2 * g) (-1)).toNat (sp.getD (2 * g + 1) (-1)).toNat⟩ : Str) = tx ((l.take (sp.getD (2 * g + 1) (-1)).toNat).drop (sp.getD (2 * g) (-1)).toNat) := by
      unfold tx
      rw [List.extract_toArray, List.extract_eq_drop_take, List.drop_take]
    rw [ex]
    refine wpAny_mkStr (wpAny_pure ⟨_, rfl, .str _, ρ, σ, ⟨_, rfl⟩, hs.toks _, hy (by omega) (by omega)⟩) ?_
    rw [tx_len, List.length_drop, List.length_take]
    omega
end
end Mine
namespace Mine
open PySem
open PySem.Sre (M Wait Seen)
/-- the words of a set, from i on -/
def InS (code : Array Nat) (i fuel : Nat) (yes : Bool) (p : Nat → Bool) : Prop := ∀ c sn, ∃ sn', Sre.inSet code c fuel i yes sn = .ok (p c, sn')
section
variable {code : Array Nat} {i fuel a k : Nat} {yes : Bool} {p q : Nat → Bool}
theorem op0 : Sre.ops[0]? = some .FAILURE := rfl
theorem op8 : Sre.ops[8]? = some .CATEGORY := rfl
theorem op9 : Sre.ops[9]? = some .CHARSET := rfl
theorem op21 : Sre.ops[21]? = some .NEGATE := rfl
theorem ins_fail (h : code.getD i 0 = 0) : InS code i (fuel + 1) yes (fun _ => !yes) := fun c sn => by
  unfold Sre.inSet
  simp only [Nat.add_zero, h, op0]
  exact ⟨_, rfl⟩
theorem ins_neg (h : code.getD i 0 = 21) (hp : InS code (i + 1) fuel (!yes) p) : InS code i (fuel + 1) yes p := fun c sn => by
  obtain ⟨sn', e⟩ := hp c (sn.add 21)
  unfold Sre.inSet
  simp only [Nat.add_zero, h, op21]
  exact ⟨sn', e⟩
theorem ins_lit (h : code.getD i 0 = 16) (h1 : code.getD (i + 1) 0 = a) (hp : InS code (i + 2) fuel yes p) : InS code i (fuel + 1) yes (fun c => if c == a then yes else p c) := fun c sn => by
  obtain ⟨sn', e⟩ := hp c (sn.add 16)
  unfold Sre.inSet
  simp only [Nat.add_zero, h, op16, h1]
  by_cases hc : (c == a) = true
  · exact ⟨_, by rw [if_pos hc, if_pos hc]⟩
  · exact ⟨sn', by rw [if_neg hc, if_neg hc]; exact e⟩
theorem ins_cat (h : code.getD i 0 = 8) (h1 : code.getD (i + 1) 0 = k) (hk : ∀ c, Sre.category k c = .ok (q c)) (hp : InS code (i + 2) fuel yes p) : InS code i (fuel + 1) yes (fun c => if q c then yes else p c) := fun c sn => by
  obtain ⟨sn', e⟩ := hp c ((sn.add 8).add (55 + k))
  unfold Sre.inSet
  simp only [Nat.add_zero, h, op8, h1, hk]
  cases hq : q c with
  | true => exact ⟨_, rfl⟩
  | false => exact ⟨sn', e⟩
theorem ins_charset (h : code.getD i 0 = 9) (hp : InS code (i + 9) fuel yes p) : InS code i (fuel + 1) yes (fun c => if (decide (c < 256) && (code.getD (i + (1 + c / 32)) 0).testBit (c % 32)) = true then yes else p c) := fun c sn => by
  obtain ⟨sn', e⟩ := hp c (sn.add 9)
  unfold Sre.inSet
  simp only [Nat.add_zero, h, op9]
  by_cases hc : (decide (c < 256) && (code.getD (i + (1 + c / 32)) 0).testBit (c % 32)) = true
  · exact ⟨_, by rw [if_pos hc, if_pos hc]⟩
  · exact ⟨sn', by rw [if_neg hc, if_neg hc]; exact e⟩
theorem acc_in (h : code.getD i 0 = 13) (hp : InS code (i + 2) code.size true p) : Acc code i p := fun c sn => by
  obtain ⟨sn', e⟩ := hp c sn
  unfold Sre.accepts
  simp only [h, op13]
  exact ⟨sn', e⟩
theorem acc_lit (h : code.getD i 0 = 16) (h1 : code.getD (i + 1) 0 = a) : Acc code i (fun c => c == a) := fun c sn => by
  unfold Sre.accepts
  simp only [h, op16, h1]
  exact ⟨_, rfl⟩
theorem acc_any (h : code.getD i 0 = 2) : Acc code i (fun c => c != 10) := fun c sn => by
  unfold Sre.accepts
  simp only [h, op2]
  exact ⟨_, rfl⟩
theorem Acc.congr (h : Acc code i p) (e : ∀ c, p c = q c) : Acc code i q := by rw [← funext e]; exact h
theorem cat_space (c : Nat) : Sre.category 12 c = .ok (Unicode.isSpace c) := by
  show Except.ok (Unicode.isSpace c != false) = _
  cases Unicode.isSpace c <;> rfl
end
/-- what is left of the text from q on -/
structure Sfx (K : Kc) (q : Nat) (u : List Nat) : Prop where
  lim : K.lim = q + u.length
  get : ∀ i, i < u.length → K.text.getD (q + i) 0 = u.getD i 0
section
variable {K : Kc} {q c : Nat} {u : List Nat}
theorem Sfx.tl (h : Sfx K q (c :: u)) : Sfx K (q + 1) u := ⟨by rw [h.lim, List.length_cons]; omega, fun i hi => by
  have := h.get (i + 1) (by rw [List.length_cons]; omega)
  rw [show q + 1 + i = q + (i + 1) by omega, this]; rfl⟩
theorem Sfx.hd (h : Sfx K q (c :: u)) : K.text.getD q 0 = c := h.get 0 (by rw [List.length_cons]; omega)
theorem Sfx.lt (h : Sfx K q (c :: u)) : q < K.lim := by rw [h.lim, List.length_cons]; omega
theorem Sfx.nil (h : Sfx K q []) : K.lim = q := h.lim
theorem Sfx.le (h : Sfx K q u) : q ≤ K.lim := by rw [h.lim]; omega
theorem Sfx.cnt0 {p : Nat → Bool} {most : Nat} (h : Sfx K q u) (hn : ∀ c u', u = c :: u' → p c = false) : cnt p K.text q (min most (K.lim - q)) = 0 := by
  cases u with
  | nil => rw [h.nil, Nat.sub_self, Nat.min_zero]; rfl
  | cons c u =>
    rw [h.lim, Nat.add_sub_cancel_left]
    cases hm : min most (c :: u).length with
    | zero => rfl
    | succ n => unfold cnt; rw [h.hd, hn c u rfl]; rfl
theorem cnt_sfx {p : Nat → Bool} : ∀ (u : List Nat) {q : Nat} (n : Nat), Sfx K q u → u.length ≤ n → cnt p K.text q (min n (K.lim - q)) = (u.takeWhile p).length
  | [], q, n, h, _ => by rw [h.nil, Nat.sub_self, Nat.min_zero]; rfl
  | c :: u, q, n, h, hn => by
    have ih := cnt_sfx (p := p) u n h.tl (by rw [List.length_cons] at hn; omega)
    rw [h.lim, Nat.add_sub_cancel_left, List.length_cons] at *
    rw [show min n (u.length + 1) = u.length + 1 by omega]
    unfold cnt
    rw [h.hd, List.takeWhile_cons]
    cases hp : p c with
    | false => rfl
    | true =>
      rw [if_pos rfl, if_pos rfl, List.length_cons]
      rw [show q + (u.length + 1) - (q + 1) = u.length by omega, show min n u.length = u.length by omega] at ih
      rw [ih]
end
end Mine
namespace Mine
open PySem
open PySem.Sre (M Wait Seen)
abbrev dig := Sre.isDigit
section
variable {K : Kc} {q : Nat} {om : Bool} {inn : Option Nat} {L : Array Sre.Loop} {k : Mk} {u : List Nat}
end
end Mine
namespace Mine
open PySem
open PySem.Sre (M Wait Seen)
theorem first_none {r : Nat → Option Rs} : ∀ n s, (∀ j, s ≤ j → r j = none) → firstFrom r s n = none
  | 0, _, _ => rfl
  | n + 1, s, h => by unfold firstFrom; rw [h s (Nat.le_refl _)]; exact first_none n (s + 1) fun j hj => h j (by omega)
/-! the value -/
def fig (c : Nat) : Int := (c : Int) - 48
/-- the machine's answer and the value's, the hours known -/
def Rl (l : List Nat) (k : Mk) (h : Int) : Option Rs → Option Int → Prop
  | none, none => True
  | some x, some n => 3 ≤ x.k.lm ∧ (∀ i, i < 4 → x.k.get i = k.get i) ∧ ((x.k.lm < 5 ∧ n = 3600 * h) ∨ (5 ≤ x.k.lm ∧ ∃ p a b, x.k.get 4 = some p ∧ x.k.get 5 = some (p + 2) ∧ (l.take (p + 2)).drop p = [a, b] ∧ dig a = true ∧ dig b = true ∧ n = 3600 * h + 60 * (10 * fig a + fig b)))
  | _, _ => False
theorem Rl.or {l : List Nat} {k : Mk} {h : Int} {r r' : Option Rs} {v v' : Option Int} (h1 : Rl l k h r v) (h2 : Rl l k h r' v') : Rl l k h (r.or r') (v.or v') := by
  cases r <;> cases v <;> first | exact h1.elim | exact h2 | exact h1
section
variable {l u : List Nat} {q : Nat} {k : Mk} {h : Int}
end
/-- the machine's answer and the value's, from the hours on -/
def Rh (l : List Nat) (k : Mk) : Option Rs → Option Int → Prop
  | none, none => True
  | some x, some n => 3 ≤ x.k.lm ∧ (∀ i : Nat, i < 2 → x.k.get i = if (i : Int) ≤ k.lm then k.get i else none) ∧ ∃ p e hd h, x.k.get 2 = some p ∧ x.k.get 3 = some e ∧ p ≤ e ∧ (l.take e).drop p = hd ∧ hd ≠ [] ∧ hd.length ≤ 2 ∧ (∀ c ∈ hd, dig c = true) ∧ h = hd.foldl (fun a c => 10 * a + fig c) 0 ∧
    ((x.k.lm < 5 ∧ n = 3600 * h) ∨ (5 ≤ x.k.lm ∧ ∃ p a b, x.k.get 4 = some p ∧ x.k.get 5 = some (p + 2) ∧ (l.take (p + 2)).drop p = [a, b] ∧ dig a = true ∧ dig b = true ∧ n = 3600 * h + 60 * (10 * fig a + fig b)))
  | _, _ => False
theorem Rh.or {l : List Nat} {k : Mk} {r r' : Option Rs} {v v' : Option Int} (h1 : Rh l k r v) (h2 : Rh l k r' v') : Rh l k (r.or r') (v.or v') := by
  cases r <;> cases v <;> first | exact h1.elim | exact h2 | exact h1
end Mine
namespace Mine
open PySem
end Mine
namespace Mine
open PySem PySem.W PySem.Spec PySem.Calls PyProof.Rows
/-! values as plain data -/
mutual
inductive AD (σ : Sto) : AV → PyData → Prop
  | none : AD σ .none .none
  | bool (b) : AD σ (.bool b) (.bool b)
  | int (i) : AD σ (.int i) (.int i)
  | str (x) : AD σ (.str x) (.str x)
  | list {a xs ds} : (a, AO.list xs) ∈ σ → ADs σ xs ds → AD σ (.ref a) (.list ds)
  | tuple {a xs ds} : (a, AO.tuple xs) ∈ σ → ADs σ xs ds → AD σ (.ref a) (.tuple ds)
inductive ADs (σ : Sto) : List AV → List PyData → Prop
  | nil : ADs σ [] []
  | cons {a as d ds} : AD σ a d → ADs σ as ds → ADs σ (a :: as) (d :: ds)
end
section
variable {C : Cx} {E : Value → Shared → Prop} {ρ : Loc} {σ : Sto} {Q : AV → Loc → Sto → Prop} {s : Shared}
mutual
theorem AD.reads (hs : Rel C ρ σ s) : ∀ {a : AV} {d : PyData} {v : Value}, AD σ a d → RV a v → ∃ as, Reads s.heap v d as
  | _, _, _, .none, rfl => ⟨_, .none⟩
  | _, _, _, .bool b, rfl => ⟨_, .bool b⟩
  | _, _, _, .int i, ⟨t, rfl⟩ => ⟨_, .int i t⟩
  | _, _, _, .str x, ⟨t, rfl⟩ => ⟨_, .str x t⟩
  | _, _, _, .list hm hx, rfl => by
    obtain ⟨o, e, _, _, vs, n, r, rfl⟩ := hs.led _ hm
    obtain ⟨as, h⟩ := ADs.reads hs hx r
    exact ⟨_, .list e rfl rfl (by simpa using h)⟩
  | _, _, _, .tuple hm hx, rfl => by
    obtain ⟨o, e, _, _, vs, n, r, rfl⟩ := hs.led _ hm
    obtain ⟨as, h⟩ := ADs.reads hs hx r
    exact ⟨_, .tuple e rfl rfl (by simpa using h)⟩
theorem ADs.reads (hs : Rel C ρ σ s) : ∀ {as : List AV} {ds : List PyData} {vs : List Value}, ADs σ as ds → RVs as vs → ∃ bs, ReadsAll s.heap vs ds bs
  | _, _, _, .nil, .nil => ⟨_, .nil⟩
  | _, _, _, .cons h hr, .cons r rr => by
    obtain ⟨as, h1⟩ := AD.reads hs h r
    obtain ⟨bs, h2⟩ := ADs.reads hs hr rr
    exact ⟨_, .cons h1 h2⟩
end
theorem ADs.strs : ∀ ls : List (List Nat), ADs σ (ls.map fun l => .str (tx l)) (ls.map fun l => .str (tx l))
  | [] => .nil
  | l :: ls => .cons (.str _) (ADs.strs ls)
theorem c_eq_data {a b : AV} {da db : PyData} {env : Env} {n : Nat} (O : C.Ok env (n + 1)) (ha : AD σ a da) (hb : AD σ b db) (la : da.canLay0 = true) (lb : db.canLay0 = true) (hd : da.depth ≤ 5) (h : Q (.bool (PyData.eqv da db)) ρ σ) : Cmp2 C E .Eq a b Q ρ σ := by
  intro va vb ra rb s hs
  obtain ⟨as, h1⟩ := ha.reads hs ra
  obtain ⟨bs, h2⟩ := hb.reads hs rb
  have := O.units
  exact SeqAt.compareEq_reads h1 h2 la lb (by omega) ⟨.bool _, ρ, σ, rfl, hs, h⟩
theorem c_ne_data {a b : AV} {da db : PyData} {env : Env} {n : Nat} (O : C.Ok env (n + 1)) (ha : AD σ a da) (hb : AD σ b db) (la : da.canLay0 = true) (lb : db.canLay0 = true) (hd : da.depth ≤ 5) (h : Q (.bool (!PyData.eqv da db)) ρ σ) : Cmp2 C E .NotEq a b Q ρ σ := by
  intro va vb ra rb s hs
  obtain ⟨as, h1⟩ := ha.reads hs ra
  obtain ⟨bs, h2⟩ := hb.reads hs rb
  have := O.units
  exact SeqAt.compareNe_reads h1 h2 la lb (by omega) ⟨.bool _, ρ, σ, rfl, hs, h⟩
/-! none, truth -/
def AV.isNone : AV → Bool
  | .none => true
  | .val v => v == .none
  | _ => false
theorem RV.isNone {a : AV} {v : Value} (h : RV a v) : (v == .none) = a.isNone := by
  cases a with
  | none => cases h; rfl
  | bool b => cases h; rfl
  | int i => obtain ⟨t, rfl⟩ := h; rfl
  | str x => obtain ⟨t, rfl⟩ := h; rfl
  | bytes x => obtain ⟨t, rfl⟩ := h; rfl
  | ref r => cases h; rfl
  | val w => cases h; rfl
theorem c_isnot_none {a : AV} (h : Q (.bool (!a.isNone)) ρ σ) : Cmp2 C E .IsNot a .none Q ρ σ := by
  intro va vb ra rb s hs
  cases rb
  exact isnot_none_gen ⟨.bool _, ρ, σ, by rw [ra.isNone]; rfl, hs, h⟩
theorem tr_none {QB : Bool → Loc → Sto → Prop} (h : QB false ρ σ) : ATr C E .none QB ρ σ := by
  intro v rv s hs
  cases rv
  exact wpAny_pure ⟨false, ρ, σ, rfl, hs, h⟩
theorem tr_str {l : List Nat} {QB : Bool → Loc → Sto → Prop} (hl : l.length ≤ sizeLine) (h : QB (decide (l ≠ [])) ρ σ) : ATr C E (.str (tx l)) QB ρ σ := by
  intro v rv s hs
  obtain ⟨t, rfl⟩ := rv
  refine P.truthy_str (by rw [tx_len]; rw [sizeLine_eq] at hl; omega) ⟨_, ρ, σ, ?_, hs.toks _, h⟩
  rw [tx_len]
  cases l <;> simp <;> omega
theorem tr_list {a : Addr} {xs : List AV} {QB : Bool → Loc → Sto → Prop} (hm : (a, AO.list xs) ∈ σ) (hl : xs.length ≤ sizeLine) (h : QB (!xs.isEmpty) ρ σ) : ATr C E (.ref a) QB ρ σ := by
  intro v rv s hs
  cases rv
  obtain ⟨o, e, _, _, vs, n, r, rfl⟩ := hs.led _ hm
  refine wpAny_truthy_list ⟨_, e, rfl, n, rfl⟩ (by rw [List.size_toArray, r.length]; rw [sizeLine_eq] at hl; omega) ⟨_, ρ, σ, ?_, hs.toks _, h⟩
  have := r.length
  cases xs <;> cases vs <;> simp_all
/-! int of a text of figures -/
/-! isinstance -/
end
end Mine
namespace Mine
open PySem PySem.W PySem.Spec PySem.Calls PyProof.Rows
section
variable {C : Cx} {E : Value → Shared → Prop} {ρ : Loc} {σ : Sto} {Q : AV → Loc → Sto → Prop} {s : Shared}
end
section
variable {C : Cx} {E : Value → Shared → Prop} {ρ : Loc} {σ : Sto} {Q : AV → Loc → Sto → Prop}
theorem b_group_some {ma ta : Addr} {l hd : List Nat} {sp : List Int} {g p e : Nat} {gi : Int} (hgi : gi = g) (hm : (ma, AO.pred (MObj l ta)) ∈ σ) (ht : (ta, AO.tuple (sp.map .int)) ∈ σ) (hg : 2 * g < sp.length) (hl : l.length ≤ sizeLine)
    (e1 : sp.getD (2 * g) (-1) = (p : Nat)) (e2 : sp.getD (2 * g + 1) (-1) = (e : Nat)) (hs : (l.take e).drop p = hd) (h : Q (.str (tx hd)) ρ σ) : ACall C E (.builtin "re.Match.group") [.ref ma, .int gi] Q ρ σ := by
  subst hgi
  refine b_group hm ht hg hl (fun hn => by rw [e1, e2] at hn; omega) (fun _ _ => ?_)
  rw [e1, e2, Int.toNat_natCast, Int.toNat_natCast, hs]
  exact h
theorem strOk_tx {l : List Nat} (h : ∀ c ∈ l, c < 0x110000) : PyData.strOk (tx l) = true := by
  unfold PyData.strOk tx
  rw [Array.all_eq_true']
  intro c hc
  exact decide_eq_true (h c (by simpa using hc))
end
end Mine
namespace Mine
open PySem PySem.W PySem.Spec PySem.Calls PyProof.Rows
section
variable {C : Cx} {E : Value → Shared → Prop} {ρ : Loc} {σ : Sto} {Q : AV → Loc → Sto → Prop} {I : Addr}
/-- an iterator over a text -/
abbrev siterO (l : List Nat) (i : Nat) : AO := .pred fun o => o.cls = .type (strIterType (tx l)) ∧ ∃ t, o.data = .fields #[.str (tx l) t, .int i 0]
theorem it_str {l : List Nat} {P : Addr → Loc → Sto → Prop} (h : ∀ I, P I ρ ((I, siterO l 0) :: σ)) : AIt C E (.str (tx l)) P ρ σ := by
  rintro _ ⟨t, rfl⟩ s hs
  exact wpAny_pyIter_strU ⟨_, _, _, rfl, hs.push (ao := siterO l 0) ⟨rfl, t, rfl⟩ rfl s.toks, h _⟩
theorem tx_get (l : List Nat) (i : Nat) : (tx l).cps[i]? = l[i]? := by simp [tx]
theorem nx_str {l : List Nat} {i c : Nat} {σ' : Sto} (hc : l[i]? = some c) : NxI C I (siterO l i) σ' (.str (tx [c])) (siterO l (i + 1)) := by
  intro ρ s E Q hs k
  obtain ⟨o, ho, _, _, hcl, t, hd⟩ := hs.led (I, siterO l i) (.head _)
  have hx : (tx l).cps[i]? = some c := by rw [tx_get]; exact hc
  cases ha : (tx l).cps.all (· < 128) with
  | true =>
    have e : strIterType (tx l) = "str_ascii_iterator" := by unfold strIterType; rw [ha]; rfl
    refine wpAny_pyNext_ascii_item (it := I) (x := tx l) (t := t) (i := i) (c := c) ⟨o, ho, by rw [hcl, e], hd⟩ hx fun h' hi hsb => ?_
    obtain ⟨o', ho', hc', hd'⟩ := hi
    exact k _ _ ⟨_, rfl⟩ (hs.updP hsb ho' (ao' := siterO l (i + 1)) ⟨by rw [hc', e], t, hd'⟩ _)
  | false =>
    have e : strIterType (tx l) = "str_iterator" := by unfold strIterType; rw [ha]; rfl
    refine wpAny_pyNext_wide_item (it := I) (x := tx l) (t := t) (i := i) (c := c) ⟨o, ho, by rw [hcl, e], hd⟩ hx fun h' hi hsb => ?_
    obtain ⟨o', ho', hc', hd'⟩ := hi
    exact k _ _ ⟨_, rfl⟩ (hs.updP hsb ho' (ao' := siterO l (i + 1)) ⟨by rw [hc', e], t, hd'⟩ _)
theorem nx_str_end {l : List Nat} {i : Nat} {σ' : Sto} (hh : C.A.handled = none) (hi : l.length ≤ i) : NxE C I (siterO l i) σ' := by
  intro ρ s E Q hs k
  obtain ⟨o, ho, _, _, hcl, t, hd⟩ := hs.led (I, siterO l i) (.head _)
  have hx : (tx l).cps[i]? = none := by rw [tx_get]; exact List.getElem?_eq_none hi
  cases ha : (tx l).cps.all (· < 128) with
  | true =>
    have e : strIterType (tx l) = "str_ascii_iterator" := by unfold strIterType; rw [ha]; rfl
    exact wpAny_pyNext_ascii_end hh (it := I) (x := tx l) (t := t) (i := i) ⟨o, ho, by rw [hcl, e], hd⟩ hx fun h' he => k _ (hs.extP he s.toks)
  | false =>
    have e : strIterType (tx l) = "str_iterator" := by unfold strIterType; rw [ha]; rfl
    exact wpAny_pyNext_wide_end hh (it := I) (x := tx l) (t := t) (i := i) ⟨o, ho, by rw [hcl, e], hd⟩ hx fun h' he => k _ (hs.extP he s.toks)
theorem ns_str {l : List Nat} {i : Nat} : NxS C I (siterO l i) := fun o ho s E Q e hq => by
  obtain ⟨hcl, t, hd⟩ := ho
  cases ha : (tx l).cps.all (· < 128) with
  | true =>
    have e' : strIterType (tx l) = "str_ascii_iterator" := by unfold strIterType; rw [ha]; rfl
    exact wpAny_pyIter_striter_ascii (it := I) (x := tx l) (t := t) (i := i) ⟨o, e, by rw [hcl, e'], hd⟩ hq
  | false =>
    have e' : strIterType (tx l) = "str_iterator" := by unfold strIterType; rw [ha]; rfl
    exact wpAny_pyIter_striter_wide (it := I) (x := tx l) (t := t) (i := i) ⟨o, e, by rw [hcl, e'], hd⟩ hq
theorem iter_str {l : List Nat} (hh : C.A.handled = none) : Iter C (siterO l) (l.map fun c => .str (tx [c])) (fun _ => True) where
  item := fun I σ i v _ hv => by
    rw [List.getElem?_map] at hv
    cases hl : l[i]? with
    | none => rw [hl] at hv; cases hv
    | some c => rw [hl] at hv; cases hv; exact nx_str hl
  fin := fun I σ _ => nx_str_end hh (by rw [List.length_map]; omega)
  self := fun _ _ => ns_str
  more := fun _ _ h => h
/-! two names at once -/
theorem Rel.extNew {s : Shared} (hs : Rel C ρ σ s) {h' : Heap} (he : Heap.ExtBut s.heap.objs.size s.heap h') : Rel C ρ σ { s with heap := h' } := hs.keeps (h' := h') (fun b o e => he b o (Nat.ne_of_lt (Heap.lt_size e)) e) s.toks
def ATup2 (a : AV) (σ : Sto) (P : AV → AV → Prop) : Prop := ∃ t u v, a = .ref t ∧ (t, AO.tuple [u, v]) ∈ σ ∧ P u v
theorem atup2 {t : Addr} {u v : AV} {P : AV → AV → Prop} (hm : (t, AO.tuple [u, v]) ∈ σ) (h : P u v) : ATup2 (.ref t) σ P := ⟨t, u, v, rfl, hm, h⟩
theorem Rel.isTuple {s : Shared} (hs : Rel C ρ σ s) {t : Addr} {xs : List AV} (hm : (t, AO.tuple xs) ∈ σ) : ∃ vs, RVs xs vs ∧ s.heap.IsTuple t vs.toArray := by
  obtain ⟨o, e, _, _, vs, n, r, rfl⟩ := hs.led _ hm
  exact ⟨vs, r, ⟨_, e, rfl, n, rfl⟩⟩
variable {env : Env} {pos : Pos} {QF : AF → Loc → Sto → Prop}
theorem in_order2 {x y : Str} {px py : Pos} {u v : AV} {vu vv : Value} {Q : Loc → Sto → Prop} (ru : RV u vu) (rv : RV v vv) (h : ASt C E env x u (fun ρ₂ σ₂ => ASt C E env y v Q ρ₂ σ₂) ρ σ) :
    AW (Eq (α := Unit)) C E (assignInOrder [assign (.Name x px) env, assign (.Name y py) env] [vu, vv]) (fun _ => Q) ρ σ := by
  intro s hs
  refine assignInOrder_cons (wpAny_assign_Name ((h vu ru).lift1 hs fun _ _ ρ₁ σ₁ s₁ _ hs₁ h₁ => ?_))
  refine assignInOrder_cons (wpAny_assign_Name ((h₁ vv rv).lift1 hs₁ fun _ _ ρ₂ σ₂ s₂ _ hs₂ h₂ => ?_))
  exact assignInOrder_nil ⟨(), ρ₂, σ₂, rfl, hs₂, h₂⟩
theorem ex_assign2 {x y : Str} {px py tp : Pos} {k : Nat} {e : Expr} (hh : C.A.handled = none)
    (h : AW RV C E (eval e env) (fun a ρ₁ σ₁ => ATup2 a σ₁ fun u v => ASt C E env x u (fun ρ₂ σ₂ => ASt C E env y v (QF .next) ρ₂ σ₂) ρ₁ σ₁) ρ σ)
    (hs0 : swapsWithSole [.Tuple [.Name x px, .Name y py] k tp] e pos.line env = pure false) (hw : swappedStores [.Tuple [.Name x px, .Name y py] k tp] e env = pure none) :
    AW RF C E (exec (.Assign [.Tuple [.Name x px, .Name y py] k tp] e pos) env) QF ρ σ := by
  intro s hs
  refine wpAny_Assign_stores (h.lift1 hs fun va a ρ₁ σ₁ s₁ ra hs₁ h₁ => ?_) hs0 hw
  obtain ⟨t, u, v, rfl, hm, h₂⟩ := h₁
  cases ra
  obtain ⟨vs, r, ht⟩ := hs₁.isTuple hm
  obtain ⟨vu, vv, rfl, ru, rv⟩ := RVs.two' r
  show wpAny _ _ (assign (.Tuple [.Name x px, .Name y py] k tp) env (.ref t)) _ _ _
  refine wpAny_assign_Tuple hh ht rfl rfl fun h' he => ?_
  exact (in_order2 ru rv h₂).lift1 (hs₁.extNew he) fun _ _ ρ₂ σ₂ s₂ _ hs₂ h₃ => ⟨.next, ρ₂, σ₂, rfl, hs₂, h₃⟩
/-! split at one sign -/
end
end Mine
namespace Mine
open PySem PySem.W PySem.Spec PySem.Calls PyProof.Rows
section
variable {C : Cx} {E : Value → Shared → Prop} {ρ : Loc} {σ : Sto} {Q : AV → Loc → Sto → Prop} {env : Env} {n : Nat}
end
end Mine
namespace Mine
open PySem PySem.W PySem.Spec PySem.Calls PyProof.Rows
end Mine
namespace Mine
open PySem PySem.W PySem.Spec PySem.Calls PyProof.Rows
end Mine
namespace Mine
open PySem PySem.W PySem.Spec PySem.Calls PyProof.Rows
section
variable {C : Cx} {E : Value → Shared → Prop} {ρ : Loc} {σ : Sto} {env : Env} {pos : Pos} {QF : AF → Loc → Sto → Prop} {target test : Expr} {body : List Stmt} {I : Addr}
/-- a loop over items that are pictures of plain things -/
theorem for_indA {α : Type} {it : Nat → AO} {ok : Sto → Prop} (g : α → AV) (as : List α) (W : Iter C it (as.map g) ok) (J : List α → List α → Loc → Sto → Prop)
    (src : ∀ d r ρ σ, J d r ρ σ → ok σ)
    (step : ∀ d x r ρ σ, as = d ++ x :: r → J d (x :: r) ρ σ → AAs C (LE C env E) env target I (g x) (fun ρ₁ σ₁ => AW RF C (LE C env E) (execs body env) (Turn QF (fun ρ₂ σ₂ => ∃ ρ₃ σ₃, J (d ++ [x]) r ρ₃ σ₃ ∧ SubS ((I, it (d.length + 1)) :: σ₃) σ₂ ∧ LocSub ρ₃ ρ₂)) ρ₁ σ₁) ρ ((I, it (d.length + 1)) :: σ))
    (fin : ∀ ρ σ, J as [] ρ σ → QF .next ρ σ) (h0 : J [] as ρ σ) : AFor C E target I body env QF ρ ((I, it 0) :: σ) := by
  refine for_ind W (fun d' r' ρ σ => ∃ d r, d' = d.map g ∧ r' = r.map g ∧ as = d ++ r ∧ J d r ρ σ) ?_ ?_ ?_ ⟨[], as, rfl, rfl, rfl, h0⟩
  · rintro _ _ ρ σ ⟨d, r, _, _, _, h⟩; exact src _ _ _ _ h
  · rintro _ v _ ρ σ hx ⟨d, r, rfl, hr, has, hJ⟩
    cases r with
    | nil => cases hr
    | cons x r =>
      rw [List.map_cons] at hr
      obtain ⟨rfl, rfl⟩ := List.cons.inj hr
      have := step d x r ρ σ has hJ
      rw [List.length_map]
      intro vv rv s hs
      refine wpAny_mono (this vv rv s hs) (fun _ s' ⟨u, ρ₁, σ₁, eu, hs₁, h₁⟩ => ⟨u, ρ₁, σ₁, eu, hs₁, h₁.mono fun f ρ₂ σ₂ ht => ?_⟩) fun _ _ e => e
      have go : (∃ ρ₃ σ₃, J (d ++ [x]) r ρ₃ σ₃ ∧ SubS ((I, it (d.length + 1)) :: σ₃) σ₂ ∧ LocSub ρ₃ ρ₂) → ∃ ρ₃ σ₃, (∃ d_1 r_1, d.map g ++ [g x] = d_1.map g ∧ r.map g = r_1.map g ∧ as = d_1 ++ r_1 ∧ J d_1 r_1 ρ₃ σ₃) ∧ SubS ((I, it (d.length + 1)) :: σ₃) σ₂ ∧ LocSub ρ₃ ρ₂ := by
        rintro ⟨ρ₃, σ₃, hJ', h2, h3⟩
        exact ⟨ρ₃, σ₃, ⟨d ++ [x], r, by simp, rfl, by rw [has]; simp, hJ'⟩, h2, h3⟩
      cases f with
      | next => exact go ht
      | cont => exact go ht
      | brk => exact ht
      | ret w => exact ht
  · rintro ρ σ ⟨d, r, h1, h2, h3, h4⟩
    cases r with
    | nil => rw [List.append_nil] at h3; subst h3; exact fin _ _ h4
    | cons x r => cases h2
end
section
variable {C : Cx} {E : Value → Shared → Prop} {ρ : Loc} {σ : Sto} {env cenv : Env} {pos : Pos} {elt target iter : Expr} {ifs : List Expr} {scope : Scope} {I D c : Addr} {QC : Loc → Sto → Prop}
end
section
variable {q : Str} {sc : Scope} {L f : Addr} {cd : Value} {cl : List (Str × Addr)} {y : Str} {py pos spos : Pos} {elt : Expr} {gs : List Comprehension} {scope : Scope}
end
section
variable {C : Cx} {E : Value → Shared → Prop} {ρ : Loc} {σ : Sto} {pos : Pos} {elt target iter : Expr} {ifs : List Expr} {scope : Scope} {I D : Addr} {q : Str} {sc : Scope} {f : Addr} {cd : Value} {clf cl : List (Str × Addr)} {y : Str} {py spos : Pos} {QF : AF → Loc → Sto → Prop}
end
end Mine
namespace Mine
open PySem PySem.W PySem.Spec PySem.Calls PyProof.Rows
open PySem.Builtin.Re
/-! facts of the top, by reckoning -/
def dEs (K : Frag) (a : Addr) : Array DictEntry := match K.lookup a with
  | some ⟨_, _, .dict es _, _⟩ => es
  | _ => #[]
def pf (K : Frag) (a : Addr) (i : Nat) : Value := match K.lookup a with
  | some ⟨_, _, .fields fs, _⟩ => fs.getD i .none
  | _ => .none
def pca (K : Frag) (a : Addr) : Addr := match pf K a 5 with
  | .ref c => c
  | _ => 0
def sIt (K : Frag) (a : Addr) : Array Value := match K.lookup a with
  | some ⟨_, _, .seq xs _, _⟩ => xs
  | _ => #[]
def sSz (K : Frag) (a : Addr) : Nat := match K.lookup a with
  | some ⟨_, _, .seq _ n, _⟩ => n
  | _ => 0
theorem pat_of {K : Frag} {n : String} {pa : Addr} {code : List Nat} {groups : Nat} (h1 : nsIn K mainGlobals (Str.ofString n) = some (some (.ref pa)))
    (h2 : K.lookup pa = some { cls := .type "re.Pattern", data := .fields #[pf K pa 0, pf K pa 1, .int groups 0, pf K pa 3, pf K pa 4, .ref (pca K pa), .int 0 0] })
    (h3 : K.lookup (pca K pa) = some { cls := .type "tuple", data := .seq (sIt K (pca K pa)) (sSz K (pca K pa)) })
    (h4 : ((sIt K (pca K pa)).map reRawOf).map (·.toNat) = code.toArray) : Pat K n pa code groups :=
  ⟨h1, _, _, _, _, _, _, _, h2, h3, h4⟩
end Mine
namespace Mine
open PySem PySem.W PySem.Spec PySem.Calls PyProof.Rows
/-! mappings whose keys are texts -/
inductive DRel : List (List Nat × AV) → List (Str × Value) → Prop
  | nil : DRel [] []
  | cons {k a v kvs pv} : RV a v → DRel kvs pv → DRel ((k, a) :: kvs) ((tx k, v) :: pv)
theorem DRel.len {kvs pv} (h : DRel kvs pv) : pv.length = kvs.length := by
  induction h with
  | nil => rfl
  | cons _ _ ih => simp [ih]
theorem tx_dec (a b : List Nat) : decide (tx a = tx b) = decide (a = b) := by
  by_cases h : a = b
  · subst h; simp
  · rw [decide_eq_false h, decide_eq_false (fun e => h (tx_inj.mp e))]
theorem DRel.any {kvs pv} (h : DRel kvs pv) (k : List Nat) : (pv.any fun kv => kv.1 = tx k) = kvs.any fun kv => kv.1 = k := by
  induction h with
  | nil => rfl
  | cons rv _ ih => simp only [List.any_cons, tx_dec, ih]
theorem DRel.app {kvs pv k a v} (h : DRel kvs pv) (rv : RV a v) : DRel (kvs ++ [(k, a)]) (pv ++ [(tx k, v)]) := by
  induction h with
  | nil => exact .cons rv .nil
  | cons rv' _ ih => exact .cons rv' ih
section
variable {C : Cx} {E : Value → Shared → Prop} {ρ : Loc} {σ σ' : Sto} {Q : AV → Loc → Sto → Prop} {s : Shared} {d : Addr} {kvs : List (List Nat × AV)} {k : List Nat}
/-- the pairs of a mapping that is written out -/
inductive RPs : List (List Nat × AV) → List (Value × Value) → Prop
  | nil : RPs [] []
  | cons {k a t v kvs pv} : RV a v → RPs kvs pv → RPs ((k, a) :: kvs) ((.str (tx k) t, v) :: pv)
theorem RPs.len {kvs pv} (h : RPs kvs pv) : pv.length = kvs.length := by
  induction h with
  | nil => rfl
  | cons _ _ ih => simp [ih]
/-! sum, chr, the empty text in a text -/
end
/-! two loops in one comprehension -/
def ACompE (C : Cx) (e : Expr) (depth : Nat) (I D : Addr) (cenv : Env) (QC : Loc → Sto → Prop) (ρ : Loc) (σ : Sto) : Prop :=
  ∀ s (RR : Result → Shared → Prop), Rel C ρ σ s → (∀ ρ' σ' s', Rel C ρ' σ' s' → QC ρ' σ' → RR (.ok .next) s') → codeAny (model C.prog C.w) C.A (.compLoop e depth (.ref I) (.ref D) cenv) RR s
section
variable {C : Cx} {ρ ρ' : Loc} {σ σ' : Sto} {cenv : Env} {pos : Pos} {elt t0 i0 t1 i1 : Expr} {scope : Scope} {I D : Addr} {QC : Loc → Sto → Prop} {e : Expr} {depth : Nat} {ao ao' : AO} {v : AV}
theorem ACompE.to (h : ACompE C e depth I D cenv QC ρ' σ') (hs : SubS σ' σ) (hl : LocSub ρ' ρ) : ACompE C e depth I D cenv QC ρ σ := fun s RR hr k => h s RR ((hr.subS hs).loc hl.sub) k
end
end Mine
namespace Mine
open PySem PySem.W PySem.Spec PySem.Calls PyProof.Rows
/-! a def with cells -/
section
variable {C : Cx} {E : Value → Shared → Prop} {ρ : Loc} {σ : Sto} {env : Env} {Q : AV → Loc → Sto → Prop} {n : Nat}
end
theorem BaseL.stays {C C' : Cx} {a : Addr} {xs : List AV} (h : BaseL C a xs) (hs : C.h₀.StaysIn C'.h₀) : BaseL C' a xs := by
  obtain ⟨vs, r, hl⟩ := h
  exact ⟨vs, r, hl.at fun o e => hs a o e⟩
/-! predicates that the driver knows -/
section
variable {C : Cx} {E : Value → Shared → Prop} {ρ : Loc} {σ : Sto} {env : Env} {pos : Pos} {Q : AV → Loc → Sto → Prop}
end
end Mine
namespace Mine
open PySem PySem.W PySem.Spec PySem.Calls PyProof.Rows
section
variable {C : Cx} {ρ : Loc} {σ : Sto} {cenv : Env} {pos : Pos} {elt t0 i0 t1 i1 : Expr} {scope : Scope} {I D c : Addr} {QC : Loc → Sto → Prop}
theorem Rel.nsSub {s : Shared} {ρ₂ ρ₃ : Loc} (h : Rel C ρ ((c, .ns ρ₂) :: σ) s) (hl : LocSub ρ₃ ρ₂) : Rel C ρ ((c, .ns ρ₃) :: σ) s := by
  refine ⟨h.shape, h.fr, fun p hp => ?_, by simpa using h.nd⟩
  rcases List.mem_cons.mp hp with rfl | hp
  · obtain ⟨o, h1, h2, h3, m, hn, hm⟩ := h.led (c, .ns ρ₂) (.head _)
    exact ⟨o, h1, h2, h3, m, hn, fun x v e => hm x v (hl.sub x v e)⟩
  · exact h.led _ (.tail _ hp)
theorem ACompE.ns {e : Expr} {depth : Nat} {ρ₂ ρ₃ : Loc} (h : ACompE C e depth I D cenv QC ρ ((c, .ns ρ₃) :: σ)) (hl : LocSub ρ₃ ρ₂) : ACompE C e depth I D cenv QC ρ ((c, .ns ρ₂) :: σ) := fun s RR hr k => h s RR (hr.nsSub hl) k
theorem ACompE.subS {e : Expr} {depth : Nat} {σ' : Sto} (h : ACompE C e depth I D cenv QC ρ σ') (hs : SubS σ' σ) : ACompE C e depth I D cenv QC ρ σ := fun s RR hr k => h s RR (hr.subS hs) k
theorem SubS.perm {σ₁ σ₂ : Sto} (h : σ₂.Perm σ₁) : SubS σ₁ σ₂ := ⟨[], by rw [List.append_nil]; exact h⟩
end
end Mine
namespace Mine
open PySem PySem.W PySem.Spec PySem.Calls PyProof.Rows
/-! defs that are made while the program runs (lambdas) -/
/-- what making a def needs of the heap below -/
def BM (C : Cx) : Prop := ∃ bm ob, C.mg "__builtins__" = some (.ref bm) ∧ bm ≠ builtinsNs ∧ bm ≠ mainGlobals ∧ C.h₀.get? bm = some ob ∧ ob.cls = .type "module" ∧ ob.dict = some builtinsNs ∧ ob.data = .plain
theorem bm_of {C : Cx} (h : ∃ bm ob, C.mg "__builtins__" = some (.ref bm) ∧ bm ≠ builtinsNs ∧ C.h₀.get? bm = some ob ∧ ob.cls = .type "module" ∧ ob.dict = some builtinsNs ∧ ob.data = .plain) (G : C.h₀.Ns mainGlobals C.mg) : BM C := by
  obtain ⟨bm, ob, b1, b2, b3, b4, b5, b6⟩ := h
  refine ⟨bm, ob, b1, b2, fun q => ?_, b3, b4, b5, b6⟩
  obtain ⟨o, es, ep, e, hd, _⟩ := G
  rw [q, e] at b3; cases b3; rw [hd] at b6; cases b6
theorem BM.stays {C C' : Cx} (h : BM C) (hm : C'.mg = C.mg) (hs : C.h₀.StaysIn C'.h₀) : BM C' := by
  obtain ⟨bm, ob, b1, b2, b3, b4, b5⟩ := h
  exact ⟨bm, ob, by rw [hm]; exact b1, b2, b3, hs _ _ b4, b5⟩
abbrev codeO (qual : Str) : AO := .pred fun o => ∃ vs t, o.data = .fields vs ∧ vs[1]? = some (.str qual t)
abbrev tabO (ps : Array Value) : AO := .raw (tabObj ps)
/-- a lambda's object -/
abbrev lamO (qual : Str) (params : Arguments) (body : Expr) (scope : Scope) (cl : List (Str × Addr)) (c : Addr) : AO := .pred fun o => ∃ pm ctv, o = kla_obj "<lambda>" qual params body scope cl pm c ctv
section
variable {C : Cx} {E : Value → Shared → Prop} {ρ : Loc} {σ : Sto} {s : Shared}
theorem Rel.add {a : Addr} {ao : AO} {o : Obj} (h : Rel C ρ σ s) (e : s.heap.get? a = some o) (h1 : a ≠ C.L) (h2 : C.h₀.get? a = none) (h3 : ∀ p ∈ σ, p.1 ≠ a) (r : RO ao o) : Rel C ρ ((a, ao) :: σ) s := by
  refine ⟨h.shape, h.fr, fun p hp => ?_, ?_⟩
  · rcases List.mem_cons.mp hp with rfl | hp
    · exact ⟨o, e, h1, h2, r⟩
    · exact h.led p hp
  · rw [List.map_cons, List.nodup_cons]
    refine ⟨fun hm => ?_, h.nd⟩
    obtain ⟨p, hp, e⟩ := List.mem_map.mp hm
    exact h3 p hp e
theorem Rel.newAt {a : Addr} (h : Rel C ρ σ s) (ha : s.heap.objs.size ≤ a) : C.h₀.get? a = none ∧ a ≠ C.L ∧ ∀ p ∈ σ, p.1 ≠ a := by
  obtain ⟨m, F, _⟩ := h.fr
  refine ⟨Heap.get?_none_of_le (Nat.le_trans F.above (Nat.le_trans (Nat.le_of_lt F.ns.lt) ha)), Nat.ne_of_gt (Nat.lt_of_lt_of_le F.ns.lt ha), fun p hp e => ?_⟩
  obtain ⟨o, e1, _⟩ := h.led p hp
  exact Nat.lt_irrefl _ (Nat.lt_of_lt_of_le (Heap.lt_size e1) (by rw [e]; exact ha))
variable {q : Str} {sc : Scope} {f c P : Addr} {cl clos : List (Str × Addr)} {params : Arguments} {body : Expr} {scope : Scope} {pos : Pos} {ps : Array Value} {Q : AV → Loc → Sto → Prop}
theorem bm_at (hs : Rel C ρ σ s) (G : C.Gl) (M : BM C) (hP : s.heap.get? P = some (tabObj ps)) : mainGlobals ≠ P ∧ s.heap.BuiltinsAt C.mg P ∧ s.heap.Ns mainGlobals C.mg := by
  obtain ⟨m, F, _⟩ := hs.fr
  have hgs := G.T.g.keeps F.keep
  obtain ⟨bm, ob, b1, b2, b3, b4, b5, b6, b7⟩ := M
  refine ⟨fun q => ?_, ⟨bm, ob, b1, b2, b3, fun q => ?_, F.keep _ _ b4, b5, b6, b7⟩, hgs⟩
  · obtain ⟨o, es, ep, e, hd, _⟩ := hgs
    rw [q, hP] at e; cases e; cases hd
  · have e := F.keep _ _ b4
    rw [q, hP] at e; cases e; cases b5
/-- the first time -/
theorem aw_Lambda0 {σ' : Sto} (G : C.Gl) (M : BM C) (H : CodeHd C.h₀ c P) (hp : Pick (P, tabO ps) σ σ') (ht : TriplesOk ps.toList) (hnf : codeAmong pos ps.toList = none) (hdef : ∀ env, defaultsOf params env = ([], []))
    (hcl : closureFor scope (envX q sc C.L f (.ref c) cl) = pure clos)
    (h : ∀ r c', Q (.ref r) ρ ((r, lamO (q ++ ".<locals>." ++ "<lambda>") params body scope clos c') :: (P, tabO (ps ++ #[rawInt pos.line, rawInt pos.col, .ref c'])) :: (c', codeO (q ++ ".<locals>." ++ "<lambda>")) :: σ')) :
    AW RV C E (eval (.Lambda params body scope pos) (envX q sc C.L f (.ref c) cl)) Q ρ σ := by
  intro s hs
  have hs := hs.perm hp
  obtain ⟨o, e, n1, n2, rfl⟩ := hs.led (P, tabO ps) (.head _)
  obtain ⟨m, F, _⟩ := hs.fr
  obtain ⟨g1, g2, g3⟩ := bm_at hs G M e
  refine kla_eval (hdef _) (kla_makeFunction (mg := C.mg) hcl rfl g3 rfl (H.keeps F.keep) e ht hnf g1 g2 fun c' ctv h' tk hx hge hlt hrec htb => ?_)
  have hs1 := hs.extP hx tk
  obtain ⟨c₂, oc, vs, t, e2, hoc, hd, hv⟩ := hrec
  cases e2
  have hn := hs.newAt hge
  have nd := hs.nd
  rw [List.map_cons, List.nodup_cons] at nd
  have hs2 := hs1.add (a := c') (ao := codeO (q ++ ".<locals>." ++ "<lambda>")) hoc hn.2.1 hn.1 (fun p hp => hn.2.2 p (.tail _ hp)) ⟨vs, t, hd, hv⟩
  have hs3 := hs2.add (a := P) (ao := tabO (ps ++ #[rawInt pos.line, rawInt pos.col, .ref c'])) htb n1 n2 (fun p hp e => by
    rcases List.mem_cons.mp hp with rfl | hp
    · exact hn.2.2 (P, tabO ps) (.head _) e.symm
    · exact nd.1 (e ▸ List.mem_map.mpr ⟨p, hp, rfl⟩)) rfl
  exact ⟨.ref _, ρ, _, rfl, hs3.push (ao := lamO (q ++ ".<locals>." ++ "<lambda>") params body scope clos c') ⟨_, _, rfl⟩ rfl tk, h _ c'⟩
/-- another time -/
theorem aw_Lambda1 {c' : Addr} (G : C.Gl) (M : BM C) (H : CodeHd C.h₀ c P) (hm : (P, tabO ps) ∈ σ) (ht : TriplesOk ps.toList) (hf : codeAmong pos ps.toList = some (.ref c')) (hdef : ∀ env, defaultsOf params env = ([], []))
    (hcl : closureFor scope (envX q sc C.L f (.ref c) cl) = pure clos)
    (h : ∀ r, Q (.ref r) ρ ((r, lamO (q ++ ".<locals>." ++ "<lambda>") params body scope clos c') :: σ)) :
    AW RV C E (eval (.Lambda params body scope pos) (envX q sc C.L f (.ref c) cl)) Q ρ σ := by
  intro s hs
  obtain ⟨o, e, n1, n2, rfl⟩ := hs.led (P, tabO ps) hm
  obtain ⟨m, F, _⟩ := hs.fr
  obtain ⟨g1, g2, g3⟩ := bm_at hs G M e
  refine kla_eval (hdef _) (kla_makeFunctionHit (mg := C.mg) hcl rfl g3 rfl (H.keeps F.keep) e ht hf g2 fun ctv h' tk hk hsz => ?_)
  have hs1 := hs.keeps (h' := h') hk tk
  exact ⟨.ref _, ρ, _, rfl, hs1.push (ao := lamO (q ++ ".<locals>." ++ "<lambda>") params body scope clos c') ⟨_, _, rfl⟩ rfl tk, h _⟩
/-- what a call's end asks -/
def PostC (C : Cx) (E : Value → Shared → Prop) (Q : AV → Loc → Sto → Prop) : Result → Shared → Prop := fun r s' => match r with
  | .ok (.ret v) => ∃ b ρ' σ', RV b v ∧ Rel C ρ' σ' s' ∧ Q b ρ' σ'
  | .ok _ => False
  | .error e => E e s'
/-- calling a lambda -/
theorem b_lam {env : Env} {n : Nat} {r c' : Addr} {qual : Str} {as : List AV} {names : List Str} (O : C.Ok env (n + 1)) (hm : (r, lamO qual params body scope clos c') ∈ σ) (hc : (c', codeO qual) ∈ σ)
    (hb : ∀ pm ctv (vs : List Value), vs.length = as.length → bindArgs (kla_fn "<lambda>" qual params body scope clos pm (.ref c') ctv) ⟨vs, []⟩ = Pure.pure (names.zip vs)) (hnd : names.Nodup) (hloc : ∀ y ∈ names, scope.names.lookup y = some .local)
    (hcell : ∀ x ∈ scope.names, x.2 ≠ .cell) (hco : scope.isCoroutine = false) (hgen : scope.isGenerator = false) (hk : scope.kind = .function)
    (h : ∀ (C' : Cx) E', C'.K = C.K → C'.prog = C.prog → C'.w = C.w → C'.mg = C.mg → C.h₀.StaysIn C'.h₀ → C'.Ok (envX qual scope C'.L r (.ref c') clos) n → AW RV C' E' (eval body (envX qual scope C'.L r (.ref c') clos)) (fun v _ σ' => Q v ρ σ') (names.zip as) σ) :
    ACall C E (.ref r) as Q ρ σ := by
  intro vs hvs s hs
  obtain ⟨m, news, F, hl, N, hmm⟩ := hs.frame
  obtain ⟨o, ho, hr⟩ := hmm _ hm
  obtain ⟨pm, ctv, rfl⟩ := hr
  obtain ⟨oc, hoc, vsc, tc, hdc, hvc⟩ := hmm _ hc
  have hrec : s.heap.CodeRec (.ref c') qual := ⟨c', oc, vsc, tc, rfl, (N _ hoc).1, hdc, hvc⟩
  refine wpAny_call ?_
  obtain ⟨FG, BG, st, lv⟩ := groundX (R := PostC C E Q) O.B F N O.hA O.hf O.hk
  have key : codeAny (model C.prog C.w) C.A (.call (.ref r) ⟨vs, []⟩) (PostC C E Q) s := by
    refine kla_callFunE (by have := O.depth; omega) (N _ ho).1 rfl hco hgen rfl hrec ?_
    rw [hb pm ctv vs hvs.length]
    refine wpAny_pure (wpAny_newFunctionEnv hcell (fun y hy => hloc _ (List.of_mem_zip hy).1) (fun h₁ hns hsb => ⟨((O.T.nolimit).keeps F.keep).fresh _ hsb, ?_⟩) hk)
    show codeAny _ _ (.expr body (envX qual scope s.heap.objs.size r (.ref c') clos)) _ _
    have hk₁ : ∀ b o, s.heap.get? b = some o → h₁.get? b = some o := fun b o e => hsb.extBut b o (Nat.ne_of_lt (Heap.lt_size e)) (Heap.get?_push_of_some _ e)
    have N' : News (hideAll s.heap (news.map (·.1))) s.heap.objs.size h₁ news := fun p hp => ⟨hk₁ _ _ (N p hp).1, Nat.ne_of_lt (Heap.lt_size (N p hp).1), hideAll_none _ (List.mem_map_of_mem hp)⟩
    have F' : Fr (hideAll s.heap (news.map (·.1))) s.heap.objs.size h₁ (fun y => (names.zip vs).reverse.lookup y) := ⟨hns, fun b o e => hk₁ b o (of_hideAll _ e), Nat.le_of_eq (hideAll_size _ _)⟩
    generalize s.heap.objs.size = L' at *
    generalize hideAll s.heap (news.map (·.1)) = g at *
    have hs' : Rel (C.callee env (envX qual scope L' r (.ref c') clos) g L') (names.zip as) σ { s with heap := h₁, toks := s.toks + (names.zip vs).length } := by
      obtain ⟨⟨h'', tk, e⟩, _, _, nd⟩ := hs
      subst e
      refine ⟨⟨h₁, _, rfl⟩, ⟨_, F', lookup_zip_rev hnd hvs⟩, fun p hp => ?_, nd⟩
      obtain ⟨o, hn, r⟩ := hmm p hp
      exact ⟨o, (N' _ hn).1, (N' _ hn).2.1, (N' _ hn).2.2, r⟩
    refine kla_codeExpr (wpAny_mono (h (C.callee env (envX qual scope L' r (.ref c') clos) g L') (CE C (envX qual scope L' r (.ref c') clos) E) rfl rfl rfl rfl st (O.callee (s := s) BG st rfl hk) _ hs') (fun v s' ⟨b, ρ', σ', rf, hs₂, qq⟩ => lv _ _ ?_) fun e s' x => x)
    obtain ⟨m', news', F₂, hl₂, N₂, hm₂⟩ := hs₂.frame
    refine leaveK_ F₂ N₂ fun F₃ N₃ => ?_
    refine ⟨b, ρ, σ', rf, ?_, qq⟩
    obtain ⟨⟨h'', tk, e⟩, _, _, nd⟩ := hs₂
    refine ⟨⟨h'', tk, e⟩, ⟨m, F₃, hl⟩, fun p hp => ?_, nd⟩
    obtain ⟨o, hn, r⟩ := hm₂ p hp
    exact ⟨o, (N₃ _ hn).1, (N₃ _ hn).2.1, (N₃ _ hn).2.2, r⟩
  exact codeAny_mono key fun r s' hr => by
    cases r with
    | ok f => cases f <;> exact hr
    | error e => exact hr
end
section
variable {C : Cx} {E : Value → Shared → Prop} {ρ : Loc} {σ : Sto} {env : Env} {Q : AV → Loc → Sto → Prop} {n : Nat}
end
end Mine
namespace Mine
open PySem PySem.W PySem.Spec PySem.Calls PyProof.Rows
open PySem.Builtin.Re
/-! re.Pattern.sub with a def as the replacement -/
theorem slot_re_sub : Slot "re.Pattern" "sub" "re.Pattern.sub" :=
  .of (owner := "re.Pattern") (n := "sub") (by rw [typeLookup_type, builtinLookup_eq_fast]; kernel_rfl) (by decide +kernel) (by decide +kernel) (by decide +kernel)
    (by first | exact .inl (by decide +kernel) | exact .inr (by decide +kernel)) (by rw [isSubtype_type]; kernel_rfl)
theorem type_re_sub : typeOf (.builtin "re.Pattern.sub") = pure (.type "method_descriptor") := by show builtinType _ = _; rw [builtinType_eq_fast]; kernel_rfl
theorem entry_re_sub : entryFor table "re.Pattern.sub" = some Builtin.«re.Pattern.sub» := entryFor_of_tree (by kernel_rfl)
theorem slot_re_subn : Slot "re.Pattern" "subn" "re.Pattern.subn" :=
  .of (owner := "re.Pattern") (n := "subn") (by rw [typeLookup_type, builtinLookup_eq_fast]; kernel_rfl) (by decide +kernel) (by decide +kernel) (by decide +kernel)
    (by first | exact .inl (by decide +kernel) | exact .inr (by decide +kernel)) (by rw [isSubtype_type]; kernel_rfl)
theorem type_re_subn : typeOf (.builtin "re.Pattern.subn") = pure (.type "method_descriptor") := by show builtinType _ = _; rw [builtinType_eq_fast]; kernel_rfl
theorem entry_re_subn : entryFor table "re.Pattern.subn" = some Builtin.«re.Pattern.subn» := entryFor_of_tree (by kernel_rfl)
theorem args_re_sub (a b c : Value) : argsOk "re.Pattern.sub" ⟨[a, b, c], []⟩ := by rfl
theorem args_re_subn (a b c : Value) : argsOk "re.Pattern.subn" ⟨[a, b, c], []⟩ := by rfl
theorem plain_sub_loop : plainId "re.Pattern.sub.loop" = true := by decide +kernel
theorem entry_sub_loop : entryFor table "re.Pattern.sub.loop" = some Builtin.«re.Pattern.sub.loop» := entryFor_of_tree (by kernel_rfl)
theorem fun_call : typeLookup (.type "function") "__call__" = pure (some (.builtin "function.__call__")) := by rw [typeLookup_type, builtinLookup_eq_fast]; kernel_rfl
theorem str_no_call : typeLookup (.type "str") "__call__" = pure none := by rw [typeLookup_type, builtinLookup_eq_fast]; kernel_rfl
theorem named_sub (id f : String) (a b : Value) : reNamed id f ["repl", "string", "count"] 2 [a, b] [] = pure [some a, some b, none] := by rfl
/-- the context within a builtin -/
def Cx.in1 (C : Cx) : Cx := { C with A := C.A.in1 }
theorem Cx.Ok.in1 {C : Cx} {env : Env} {n : Nat} (O : C.Ok env (n + 1)) : C.in1.Ok env n := ⟨O.B, O.X, O.T, O.hA, O.hf, O.hk, O.hh, by have := O.depth; show C.A.depth + n < _; omega, by have := O.units; show C.A.units + 1 + 10 * n < _; omega⟩
theorem Rel.in1 {C : Cx} {ρ : Loc} {σ : Sto} {s : Shared} (h : Rel C ρ σ s) : Rel C.in1 ρ σ s := ⟨h.shape, h.fr, h.led, h.nd⟩
theorem Rel.out1 {C : Cx} {ρ : Loc} {σ : Sto} {s : Shared} (h : Rel C.in1 ρ σ s) : Rel C ρ σ s := ⟨h.shape, h.fr, h.led, h.nd⟩
section
variable {C : Cx} {E : Value → Shared → Prop} {ρ : Loc} {σ : Sto} {s : Shared}
theorem wp_whole {Mo : Model} {A : Around} {n : String} {pa : Addr} {code : List Nat} {groups : Nat} (G : C.Gl) (P : Pat C.K n pa code groups) (hs : Rel C ρ σ s) {l : List Nat} {t : Tok} {Q : ReTarget → Shared → Prop}
    (h : Q { pattern := .ref pa, string := .str (tx l) t, code := code.toArray, text := l.toArray, kind := 0, groups := groups, pos := 0, lim := l.length } s) : wpAny Mo A (reWholeTarget (.ref pa) (.str (tx l) t)) Q E s := by
  obtain ⟨v0, v1, v3, v4, ca, items, sz, h1, h2, h3⟩ := pat_at G P hs
  unfold reWholeTarget
  refine wpAny_bind (wpAny_fieldsOf h1 rfl ?_)
  rw [textOf_str]
  refine wpAny_bind (wpAny_pure ?_)
  refine wpAny_bind (wpAny_pure ?_)
  refine wpAny_bind (wp_rawItems h2 rfl ?_)
  rw [h3]
  refine wpAny_pure ?_
  show Q { pattern := .ref pa, string := .str (tx l) t, code := code.toArray, text := l.toArray, kind := 0, groups := ((groups : Int)).toNat, pos := 0, lim := (tx l).cps.size } s
  rw [show (tx l).cps.size = l.length from tx_len l]
  exact h
theorem wp_slice {Mo : Model} {A : Around} {l : List Nat} {b e : Nat} {Q : Value → Shared → Prop} (hl : l.length ≤ 1000000) (h : ∀ t n, Q (.str (tx ((l.take e).drop b)) t) { s with toks := n }) : wpAny Mo A (reSlice l.toArray 0 b e) Q E s := by
  unfold reSlice
  rw [if_pos (by rfl)]
  have ex : (⟨l.toArray.extract b e⟩ : Str) = tx ((l.take e).drop b) := by
    unfold tx
    rw [List.extract_toArray, List.extract_eq_drop_take, List.drop_take]
  rw [ex]
  refine wpAny_mkStr (h _ _) ?_
  rw [tx_len, List.length_drop, List.length_take, sizeLine_eq]
  omega
/-- one item more -/
theorem wp_push {Mo : Model} {A : Around} {pc : Addr} {xs : List AV} {a : AV} {v : Value} {Q : Unit → Shared → Prop} (hs : Rel C ρ ((pc, .list xs) :: σ) s) (rv : RV a v) (hx : xs.length ≤ 4000000) (h : ∀ s', Rel C ρ ((pc, .list (xs ++ [a])) :: σ) s' → Q () s') : wpAny Mo A (updateSeq pc (·.push v)) Q E s := by
  obtain ⟨o, e, n1, n2, vs, n, r, rfl⟩ := hs.led (pc, .list xs) (.head _)
  have hlen := r.length
  refine wpAny_updateSeq e rfl (h _ (hs.updP (Heap.SameBut.update ..) (Heap.get?_update_self _ e rfl) (ao' := .list (xs ++ [a])) ⟨vs ++ [v], n + 1, r.append (.one rv), ?_⟩ s.toks)) (by rw [List.size_toArray, hlen, sizeLine_eq]; omega) (by simp [hlen, sizeLine_eq]; omega)
  simp [Obj.mapSeq]
/-- what the replacing gives -/
inductive SubTo (l : List Nat) (nextM : Nat → Option (Nat × Rs)) (rep : Nat → Rs → List Nat) : Nat → List Nat → Prop
  | stop {p} : nextM p = none → SubTo l nextM rep p (l.drop p)
  | step {p st x T} : nextM p = some (st, x) → SubTo l nextM rep x.hd T → SubTo l nextM rep p ((l.take st).drop p ++ rep st x ++ T)
variable {pa r pc : Addr} {n : String} {code : List Nat} {groups N : Nat} {l : List Nat} {t : Tok} {nextM : Nat → Option (Nat × Rs)} {rep : Nat → Rs → List Nat} {R : Result → Shared → Prop}
theorem flat_snoc (acc : List (List Nat)) (x : List Nat) : (acc ++ [x]).flatten = acc.flatten ++ x := by simp
theorem sub_end (G : C.Gl) (P : Pat C.K n pa code groups) (hN : N < 2 ^ 60) (hl : l.length ≤ 500000) {p : Nat} (hp : p ≤ l.length) (hn : Runs N (Sre.forSearch code.toArray l.toArray groups p l.length false) (2 * groups) none)
    (acc : List (List Nat)) (k : Nat) (s : Shared) (ha : acc.length ≤ 2 * p) (hz : (acc.map List.length).sum ≤ 500000) (hs : Rel C ρ ((pc, .list (acc.map fun x => .str (tx x))) :: σ) s)
    (hR : ∀ s' v, RV (.str (tx (acc.flatten ++ l.drop p))) v → Rel C ρ σ s' → R (.ok (.ret v)) s') :
    codeAny (model C.prog C.w) C.A (.builtin "re.Pattern.sub.loop" ⟨[.ref pa, .str (tx l) t, .ref r, rawInt 1, rawInt 0, rawInt k, rawInt p, rawInt p, .bool false, .ref pc, .bool false], []⟩) R s := by
  refine codeAny_builtin entry_sub_loop ?_
  rw [Around.under_plainId plain_sub_loop _]
  show wpAny _ _ (reWholeTarget (.ref pa) (.str (tx l) t) >>= _) _ _ s
  refine wpAny_bind (wp_whole G P hs ?_)
  obtain ⟨m', rb, hsz, hres⟩ := hn
  refine wpAny_bind ?_
  show wpAny _ _ (reRunToEnd (Sre.forSearch code.toArray l.toArray groups ((p : Int).toNat) l.length false)) _ _ s
  rw [Int.toNat_natCast]
  refine wp_run_no rb hN hres ?_
  dsimp only
  have fin : ∀ (acc' : List (List Nat)) (s₁ : Shared), Rel C ρ ((pc, .list (acc'.map fun x => .str (tx x))) :: σ) s₁ → acc'.flatten = acc.flatten ++ l.drop p → (acc'.map List.length).sum + acc'.length * ([] : List Nat).length ≤ 1000000 →
      wpAny (model C.prog C.w) C.A.in1 (do
        let joiner ← reSlice l.toArray 0 0 0
        let text ← if ((← seqItems? (.ref pc)).getD #[]).isEmpty then pure joiner
          else call (.builtin (if (0 : Nat) == 0 then "str.join" else "bytes.join")) [joiner, .ref pc]
        if false = true then ret (← holding [text] do newTuple [text, ← mkInt (k : Int)]) else ret text) (fun fin s' => match fin with | .done f => R (.ok f) s' | .again c' => c'.quiet = true ∧ codeAny (model C.prog C.w) C.A c' R s') (fun e s' => R (.error e) s') s₁ := by
    intro acc' s₁ hs₁ hfl hz'
    refine wpAny_bind (wp_slice (by omega) fun tj nj => ?_)
    have hs₂ := hs₁.toks nj
    obtain ⟨o, e, n1, n2, vs, m, rv, rfl⟩ := hs₂.led (pc, .list (acc'.map fun x => .str (tx x))) (.head _)
    refine wpAny_bind (wpAny_seqItems e rfl ?_)
    dsimp only [Option.getD_some]
    cases hv : vs with
    | nil =>
      subst hv
      have : acc' = [] := by
        have := rv.length
        simp at this
        exact List.length_eq_zero_iff.mp this.symm
      subst this
      rw [if_pos (by rfl)]
      refine wpAny_bind (wpAny_pure ?_)
      rw [if_neg (by decide)]
      refine wpAny_pure (hR _ _ ?_ (hs₂.appL (pre := [])))
      rw [← hfl]
      exact ⟨_, rfl⟩
    | cons v0 vs0 =>
      rw [if_neg (by simp)]
      have hj : ACall C.in1 (fun e s' => R (.error e) s') (.builtin "str.join") [.str (tx []), .ref pc] (fun v ρ' σ' => v = .str (tx (acc.flatten ++ l.drop p)) ∧ SubS σ σ' ∧ ρ' = ρ) ρ ((pc, .list (acc'.map fun x => .str (tx x))) :: σ) := by
        refine t_join (.head _) hz' ⟨?_, SubS.drop SubS.refl, rfl⟩
        rw [joinL_nil, hfl]
      refine wpAny_bind ?_
      refine (hj [.str (tx []) tj, .ref pc] (.cons ⟨_, rfl⟩ (.cons rfl .nil))).lift1 (C := C.in1) hs₂.in1 fun v b ρ' σ' s₃ rv' hs₃ ⟨eb, hsub, er⟩ => ?_
      subst eb er
      rw [if_neg (by decide)]
      exact wpAny_pure (hR _ _ rv' ((hs₃.out1).subS hsub))
  show wpAny _ _ (if (p : Int).toNat < l.length then _ else _) _ _ s
  rw [Int.toNat_natCast]
  by_cases hlt : p < l.length
  · rw [if_pos hlt]
    refine wpAny_bind (wp_slice (by omega) fun tj nj => ?_)
    refine wpAny_bind (wp_push (a := .str (tx ((l.take l.length).drop p))) (hs.toks nj) ⟨_, rfl⟩ (by simp; omega) fun s₁ hs₁ => ?_)
    rw [List.take_length] at hs₁
    refine fin (acc ++ [l.drop p]) s₁ (by simpa using hs₁) (by simp) ?_
    simp; omega
  · rw [if_neg hlt]
    refine fin acc s hs ?_ (by simp; omega)
    have : l.drop p = [] := List.drop_of_length_le (by omega)
    rw [this, List.append_nil]
theorem sub_go (G : C.Gl) (P : Pat C.K n pa code groups) (hg : groups ≤ 100) (hN : N < 2 ^ 60) (hl : l.length ≤ 500000)
    (hn : ∀ p, p ≤ l.length → Runs N (Sre.forSearch code.toArray l.toArray groups p l.length false) (2 * groups) (nextM p))
    (hM : ∀ p st x, p ≤ l.length → nextM p = some (st, x) → p ≤ st ∧ st < x.hd ∧ x.hd ≤ l.length ∧ spOk groups x.k)
    (hcb : ∀ E' pc xs st x ma ta, (∃ p, p ≤ l.length ∧ nextM p = some (st, x)) → ACall C.in1 E' (.ref r) [.ref ma] (fun v ρ' σ' => v = .str (tx (rep st x)) ∧ SubS ((pc, .list xs) :: σ) σ' ∧ LocSub ρ ρ') ρ ((ma, .pred (MObj l ta)) :: (ta, .tuple ((spans groups st x).map .int)) :: (pc, .list xs) :: σ))
    {p : Nat} {T : List Nat} (hT : SubTo l nextM rep p T) : ∀ (acc : List (List Nat)) (k : Nat) (s : Shared), p ≤ l.length → acc.length ≤ 2 * p → (acc.map List.length).sum + T.length ≤ 500000 → Rel C ρ ((pc, .list (acc.map fun x => .str (tx x))) :: σ) s →
      (∀ s' v, RV (.str (tx (acc.flatten ++ T))) v → Rel C ρ σ s' → R (.ok (.ret v)) s') →
      codeAny (model C.prog C.w) C.A (.builtin "re.Pattern.sub.loop" ⟨[.ref pa, .str (tx l) t, .ref r, rawInt 1, rawInt 0, rawInt k, rawInt p, rawInt p, .bool false, .ref pc, .bool false], []⟩) R s := by
  induction hT with
  | @stop p hnone =>
    intro acc k s hp ha hz hs hR
    have := hn p hp
    rw [hnone] at this
    exact sub_end G P hN hl hp this acc k s ha (by omega) hs hR
  | @step p st x T hsome _ ih =>
    intro acc k s hp ha hz hs hR
    obtain ⟨h1, h2, h3, h4⟩ := hM p st x hp hsome
    have hrun := hn p hp
    rw [hsome] at hrun
    refine codeAny_builtin entry_sub_loop ?_
    rw [Around.under_plainId plain_sub_loop _]
    show wpAny _ _ (reWholeTarget (.ref pa) (.str (tx l) t) >>= _) _ _ s
    refine wpAny_bind (wp_whole G P hs ?_)
    obtain ⟨m', rb, hsz, ho, e1, e2, e3⟩ := hrun
    refine wpAny_bind ?_
    show wpAny _ _ (reRunToEnd (Sre.forSearch code.toArray l.toArray groups ((p : Int).toNat) l.length false)) _ _ s
    rw [Int.toNat_natCast]
    refine wp_run_yes rb hN ho ?_
    dsimp only
    have fin : ∀ (acc' : List (List Nat)) (s₁ : Shared), Rel C ρ ((pc, .list (acc'.map fun x => .str (tx x))) :: σ) s₁ → acc'.flatten = acc.flatten ++ (l.take st).drop p → acc'.length ≤ acc.length + 1 → (acc'.map List.length).sum = (acc.map List.length).sum + ((l.take st).drop p).length →
        wpAny (model C.prog C.w) C.A.in1 (reNewMatch (.ref pa) (.str (tx l) t) groups 0 l.length m' >>= fun found => holding [found] (call (.ref r) [found]) >>= fun item => if (item != .none) = true then
          (updateSeq pc (·.push item) >>= fun _ => again (.builtin "re.Pattern.sub.loop" ⟨[.ref pa, .str (tx l) t, .ref r, rawInt 1, rawInt 0, rawInt ((k : Int) + 1), rawInt m'.handed, rawInt m'.handed, .bool (m'.handed == m'.start), .ref pc, .bool false], []⟩))
          else again (.builtin "re.Pattern.sub.loop" ⟨[.ref pa, .str (tx l) t, .ref r, rawInt 1, rawInt 0, rawInt ((k : Int) + 1), rawInt m'.handed, rawInt m'.handed, .bool (m'.handed == m'.start), .ref pc, .bool false], []⟩))
          (fun fin s' => match fin with | .done f => R (.ok f) s' | .again c' => c'.quiet = true ∧ codeAny (model C.prog C.w) C.A c' R s') (fun e s' => R (.error e) s') s₁ := by
      intro acc' s₁ hs₁ hfl hal hsum
      refine wpAny_bind (wp_newMatch e1 e2 e3 h4 hg hs₁ fun ma ta s₂ hs₂ => ?_)
      refine wpAny_bind (wpAny_holding ?_)
      refine (hcb (fun e s' => R (.error e) s') pc (acc'.map fun x => .str (tx x)) st x ma ta ⟨p, hp, hsome⟩ [.ref ma] (.one rfl)).lift1 (C := C.in1) hs₂.in1 fun v b ρ' σ' s₃ rv hs₃ ⟨eb, hsub, hloc⟩ => ?_
      subst eb
      obtain ⟨tv, rfl⟩ := rv
      have hs₄ : Rel C ρ ((pc, .list (acc'.map fun x => .str (tx x))) :: σ) s₃ := ((hs₃.out1).subS hsub).loc hloc.sub
      rw [if_pos (by rfl)]
      refine wpAny_bind (wp_push (a := .str (tx (rep st x))) hs₄ ⟨_, rfl⟩ (by simp; omega) fun s₅ hs₅ => ?_)
      refine wpAny_pure ⟨plainId_quiet plain_sub_loop _, ?_⟩
      rw [e1, e2, show (x.hd == st) = false from beq_eq_false_iff_ne.mpr (by omega)]
      have hz' : (acc.map List.length).sum + (((l.take st).drop p).length + (rep st x).length + T.length) ≤ 500000 := by
        have := hz
        simp only [List.length_append] at this
        omega
      have := ih (acc' ++ [rep st x]) (k + 1) s₅ h3 (by simp; omega) (by simp only [List.map_append, List.sum_append, List.map_cons, List.map_nil, List.sum_cons, List.sum_nil]; omega) (by simpa using hs₅) (fun s' v rv' hr' => hR s' v (by
        rw [flat_snoc, hfl] at rv'
        simpa using rv') hr')
      exact this
    show wpAny _ _ (if (p : Int).toNat < m'.start then _ else _) _ _ s
    rw [Int.toNat_natCast]
    by_cases hlt : p < m'.start
    · rw [if_pos hlt]
      refine wpAny_bind (wp_slice (by omega) fun tj nj => ?_)
      refine wpAny_bind (wp_push (a := .str (tx ((l.take m'.start).drop p))) (hs.toks nj) ⟨_, rfl⟩ (by simp; omega) fun s₁ hs₁ => ?_)
      rw [e1] at hs₁
      exact fin (acc ++ [(l.take st).drop p]) s₁ (by simpa using hs₁) (by simp) (by simp) (by simp)
    · rw [if_neg hlt]
      rw [e1] at hlt
      have : (l.take st).drop p = [] := List.drop_of_length_le (by simp; omega)
      exact fin acc s hs (by rw [this, List.append_nil]) (by omega) (by rw [this]; simp)
/-- the call itself -/
theorem b_sub {Q : AV → Loc → Sto → Prop} {T : List Nat} {qual : Str} {params : Arguments} {body : Expr} {scope : Scope} {clos : List (Str × Addr)} {c' : Addr} (G : C.Gl) (P : Pat C.K n pa code groups) (hg : groups ≤ 100) (hN : N < 2 ^ 60) (hl : l.length ≤ 500000)
    (hlam : (r, lamO qual params body scope clos c') ∈ σ)
    (hn : ∀ p, p ≤ l.length → Runs N (Sre.forSearch code.toArray l.toArray groups p l.length false) (2 * groups) (nextM p))
    (hM : ∀ p st x, p ≤ l.length → nextM p = some (st, x) → p ≤ st ∧ st < x.hd ∧ x.hd ≤ l.length ∧ spOk groups x.k)
    (hcb : ∀ E' pc xs st x ma ta, (∃ p, p ≤ l.length ∧ nextM p = some (st, x)) → ACall C.in1 E' (.ref r) [.ref ma] (fun v ρ' σ' => v = .str (tx (rep st x)) ∧ SubS ((pc, .list xs) :: σ) σ' ∧ LocSub ρ ρ') ρ ((ma, .pred (MObj l ta)) :: (ta, .tuple ((spans groups st x).map .int)) :: (pc, .list xs) :: σ))
    (hT : SubTo l nextM rep 0 T) (hz : T.length ≤ 500000) (h : Q (.str (tx T)) ρ σ) : ACall C E (.builtin "re.Pattern.sub") [.ref pa, .ref r, .str (tx l)] Q ρ σ := by
  intro vs hv s hs
  obtain ⟨v1, v2, v3, rfl, rfl, rfl, t, rfl⟩ := RVs.three' hv
  obtain ⟨_, _, _, _, _, _, _, h1, _⟩ := pat_at G P hs
  obtain ⟨ol, el, _, _, pm, ctv, rfl⟩ := hs.led _ hlam
  refine wpAny_call (codeAny_call_builtin slot_re_sub.plain entry_re_sub (slot_re_sub.check _ _ _ _ _ _ _ _ ⟨_, h1, rfl⟩ (args_re_sub _ _ _) ?_))
  unfold Builtin.«re.Pattern.sub» reSubstitute
  dsimp only
  rw [named_sub]
  refine wpAny_bind (wpAny_pure ?_)
  dsimp only
  refine wpAny_bind (wpAny_pure ?_)
  refine wpAny_bind (wpAny_specialOf (T := "function") ⟨_, el, rfl⟩ fun_call ?_)
  dsimp only [Option.isSome_some]
  refine wpAny_bind (wpAny_pure ?_)
  refine wpAny_bind (wpAny_pure ?_)
  dsimp only
  refine wpAny_bind (wpAny_holding (wp_whole G P hs ?_))
  rw [if_pos (by rfl)]
  refine wpAny_bind ?_
  unfold reNotHeld
  refine wpAny_bind (wpAny_isInstance (T := "str") (b := false) (typeIs_str _ _ _) F.sub_str_bytearray ?_)
  rw [if_neg (by decide)]
  refine wpAny_pure ?_
  refine wpAny_bind (wpAny_newObj_type ?_)
  refine wpAny_pure ⟨plainId_quiet plain_sub_loop _, ?_⟩
  have hs₁ := hs.push (ao := .list (([] : List (List Nat)).map fun x => .str (tx x))) (o := { cls := .type "list", data := .seq ([] : List Value).toArray }) ⟨[], 0, .nil, rfl⟩ rfl s.toks
  exact sub_go (t := t) (acc := []) (k := 0) (p := 0) G P hg hN hl hn hM hcb hT _ (by omega) (by simp) (by simpa using hz) hs₁ (fun s' v rv hr => ⟨_, ρ, σ, by simpa using rv, hr, h⟩)
end
end Mine
namespace Mine
open PySem
open PySem.Sre (M Seen)
/-! searches, by the head of the code -/
/-- the machine at the start of a search -/
def m0 (code l : List Nat) (groups p pc ls : Nat) : M := { code := code.toArray, text := l.toArray, lim := l.length, start := p, lastStart := ls, pc := pc, pos := p, handed := p, marks := Array.replicate (2 * groups) none, mustAdvance := false, seen := if pc == 0 then {} else ({} : Seen).add 14 }
theorem fs_go {code l : List Nat} {groups p least pc ls : Nat} (hh : Sre.header code.toArray = (least, pc)) (hpc : pc ≠ 0) (hp : p ≤ l.length) (hl : least ≤ l.length - p)
    (hls : (if (decide (least > 1) && !((pc != 0) && (code.toArray.getD 2 0 &&& 5 != 0))) = true then max p (l.length - (least - 1)) else l.length) = ls) :
    Sre.forSearch code.toArray l.toArray groups p l.length false = M.attemptFrom (m0 code l groups p pc ls) p true := by
  have e1 : (Sre.header code.toArray).1 = least := by rw [hh]
  have e2 : (Sre.header code.toArray).2 = pc := by rw [hh]
  subst e1 e2
  rw [← hls]
  unfold Sre.forSearch
  exact if_neg (show ¬ (decide (p > l.length) || decide (l.length - p < (Sre.header code.toArray).1)) = true by simp; omega)
theorem fs_no {code l : List Nat} {groups p least pc : Nat} (hh : Sre.header code.toArray = (least, pc)) (hl : l.length - p < least) : Runs 1 (Sre.forSearch code.toArray l.toArray groups p l.length false) (2 * groups) none := by
  have e1 : (Sre.header code.toArray).1 = least := by rw [hh]
  have e : Sre.forSearch code.toArray l.toArray groups p l.length false = (m0 code l groups p (Sre.header code.toArray).2 0).say false := by
    unfold Sre.forSearch
    exact if_pos (show (decide (p > l.length) || decide (l.length - p < (Sre.header code.toArray).1)) = true by simp; omega)
  rw [e]
  refine ⟨_, RB.step rfl, ?_⟩
  rw [answer_end (m := (m0 code l groups p (Sre.header code.toArray).2 0).say false) rfl rfl (b := false) rfl]
  exact ⟨Array.size_replicate, rfl⟩
def kc (code l : List Nat) (ls : Nat) : Kc := { code := code.toArray, text := l.toArray, lim := l.length, start := 0, lastStart := ls, whole := false, must := false }
theorem idle0 {code l : List Nat} {groups p pc ls : Nat} : Idle (m0 code l groups p pc ls) (kc code l ls) pc (2 * groups) := ⟨rfl, rfl, rfl, rfl, rfl, rfl, rfl, rfl, rfl, rfl, rfl, rfl, rfl, Array.size_replicate⟩
theorem sfx0 {code l : List Nat} {ls s : Nat} {b : Bool} (p : Nat) (hp : p ≤ l.length) : Sfx ((kc code l ls).at s b) p (l.drop p) := ⟨by show l.length = p + _; rw [List.length_drop]; omega, fun i hi => by
  show l.toArray.getD (p + i) 0 = _
  rw [getD_arr, List.getD_eq_getElem?_getD, List.getD_eq_getElem?_getD, List.getElem?_drop]⟩
/-- a pattern that opens with the text's beginning -/
theorem caret_search {code l : List Nat} {groups least pc ls a w : Nat} {r : Option Rs} (hh : Sre.header code.toArray = (least, pc)) (hpc : pc ≠ 0) (hl : least ≤ l.length) (hls : (if (decide (least > 1) && !((pc != 0) && (code.toArray.getD 2 0 &&& 5 != 0))) = true then max 0 (l.length - (least - 1)) else l.length) = ls)
    (hfs : ∀ m : M, m.code = code.toArray → m.hasFirstSet = false) (hc : pc < code.toArray.size) (h6 : code.toArray.getD pc 0 = 6) (h0 : code.toArray.getD (pc + 1) 0 = 0) (hw : w + 1 ≤ 16777216)
    (hr : Ex a w ((kc code l ls).at 0 false) (pc + 2) 0 true none #[] (k0 (2 * groups)) r) : Runs ((l.length + 1) * (a + 2) + 1) (Sre.forSearch code.toArray l.toArray groups 0 l.length false) (2 * groups) (r.map fun x => (0, x)) := by
  rw [fs_go hh hpc (by omega) (by omega) hls]
  have hle : ls ≤ l.length := by rw [← hls]; split <;> omega
  have hs := search_go (K := kc code l ls) (pc := pc) (nm := 2 * groups) (a := a + 1) (w := w) (rs := fun s => if s = 0 then r else none) hfs hw (ls + 1) 0 true _ (idle0 (p := 0)) (by show ls + 1 = _; omega) (by omega)
    (by
      rw [if_pos rfl]
      exact ex_at (what := 0) (a := a) hc h6 h0 (fun m h1 h2 h3 => by show Except.ok (m.pos == 0) = _; rw [h3]; rfl) hr)
    (fun s' h1 h2 => by
      rw [if_neg (by omega)]
      exact Ex.le (ex_at_no (what := 0) hc h6 h0 (fun m h1' h2' h3 => by show Except.ok (m.pos == 0) = _; rw [h3]; exact congrArg Except.ok (beq_eq_false_iff_ne.mpr (by omega)))) (by omega) (by omega))
  have er : firstFrom (fun s => if s = 0 then r else none) 0 (ls + 1) = r.map fun x => (0, x) := by
    unfold firstFrom
    rw [if_pos rfl]
    cases r with
    | some x => rfl
    | none => exact first_none _ _ fun j hj => if_neg (by omega)
  rw [er] at hs
  exact hs.le (Nat.succ_le_succ (Nat.mul_le_mul (by omega) (by omega)))
/-- .. and another start than the first one -/
theorem caret_later {code l : List Nat} {groups pc p : Nat} (hh : Sre.header code.toArray = (0, pc)) (hpc : pc ≠ 0) (hp : p ≤ l.length) (hp0 : 0 < p)
    (hfs : ∀ m : M, m.code = code.toArray → m.hasFirstSet = false) (hc : pc < code.toArray.size) (h6 : code.toArray.getD pc 0 = 6) (h0 : code.toArray.getD (pc + 1) 0 = 0) :
    Runs ((l.length + 1) * 2 + 1) (Sre.forSearch code.toArray l.toArray groups p l.length false) (2 * groups) none := by
  rw [fs_go (ls := l.length) hh hpc hp (Nat.zero_le _) rfl]
  have hs := search_go (K := kc code l l.length) (pc := pc) (nm := 2 * groups) (a := 1) (w := 0) (rs := fun s => none) hfs (by decide) (l.length + 1 - p) p true _ (idle0 (p := p)) (by show l.length + 1 = _; omega) (by omega)
    (ex_at_no (what := 0) hc h6 h0 (fun m h1' h2' h3 => by show Except.ok (m.pos == 0) = _; rw [h3]; exact congrArg Except.ok (beq_eq_false_iff_ne.mpr (by omega))))
    (fun s' h1 h2 => ex_at_no (what := 0) hc h6 h0 (fun m h1' h2' h3 => by show Except.ok (m.pos == 0) = _; rw [h3]; exact congrArg Except.ok (beq_eq_false_iff_ne.mpr (by omega))))
  rw [first_none _ _ fun j hj => rfl] at hs
  exact hs.le (Nat.succ_le_succ (Nat.mul_le_mul (by omega) (by omega)))
end Mine
namespace Mine
open PySem
open PySem.Sre (M Seen)
section
variable {a w : Nat} {K : Kc} {pc pos : Nat} {om : Bool} {inn : Option Nat} {L : Array Sre.Loop} {k : Mk} {x : Rs}
theorem rep_yes {skip c : Nat} (h1 : K.code.getD (pc + 1) 0 = skip) {kp : Sre.Kept} (hk : KOk kp k) (ht : Ex a w K (pc + 1 + skip) (pos + c) om inn L k (some x)) :
    ∀ m, At m K pc (pos + c) om inn L k → m.weight + (w + 1 + k.nm) ≤ 16777216 → ∃ m', RB (a + 1) (m.afterRun .giveBack (c : Int) kp) m' ∧ Res m m' k (some x) := by
  intro m A hz
  have hsz := hk.size
  have e1 : m.word 1 = skip := by rw [word_eq, A.code, A.pc]; exact h1
  have hz' : m.weight + 1 + kp.marks.size ≤ 16777216 := by omega
  unfold M.afterRun
  rw [attempt_eq (f := { m.frame .giveBack with count := (c : Int), kept := kp }) hz', e1, A.pc, A.pos, A.om]
  obtain ⟨m2, r2, R⟩ := ht _ (push_at (f := { m.frame .giveBack with count := (c : Int), kept := kp }) A) (by
    show m.weight + 1 + kp.marks.size + w ≤ _
    omega)
  have st := step_resume R.out R.ans R.frames
  refine ⟨_, (r2.trans (RB.step R.out)).le (by omega), ?_⟩
  rw [st]
  obtain ⟨y1, y2⟩ := R.yes x rfl
  exact ⟨R.kc, rfl, popd_weight R, R.out, rfl, R.size, (fun z hz => by cases hz; exact ⟨y1, y2⟩), (fun e => by cases e)⟩
/-- a greedy run whose first try goes through -/
theorem ex_rep1 {skip least most c : Nat} {p : Nat → Bool} (hl : pc < K.code.size) (ho : K.code.getD pc 0 = 24) (h1 : K.code.getD (pc + 1) 0 = skip) (h2 : K.code.getD (pc + 2) 0 = least) (h3 : K.code.getD (pc + 3) 0 = most)
    (Ac : Acc K.code (pc + 4) p) (hpl : pos ≤ K.lim) (hn : cnt p K.text pos (min most (K.lim - pos)) = c) (hc : least ≤ c)
    (ht : Ex a w K (pc + 1 + skip) (pos + c) om inn L k (some x)) : Ex (a + 2) (w + 1 + k.nm) K pc pos om inn L k (some x) := fun m A hz => by
  have R := A.rdy hl ho
  obtain ⟨sn', hrun⟩ := run_eq Ac (text := K.text) (min most (K.lim - pos)) pos 0 ((m.seen.add 24).add (K.code.getD (pc + 4) 0))
  rw [hn, Nat.zero_add] at hrun
  have hle := cnt_le p K.text pos (min most (K.lim - pos))
  rw [hn] at hle
  have hg := rep_yes h1 (keep_ok (b := inn.isSome) A.mks) ht { m with seen := sn', pos := pos + c } ⟨A.kc, A.pc, rfl, A.om, A.inn, A.loops, A.mks, A.ans, A.out⟩ hz
  obtain ⟨m', r', R'⟩ := hg
  have e : m.step = ({ m with seen := sn', pos := pos + c } : M).afterRun .giveBack (c : Int) (m.keep inn.isSome) := by
    rw [step_exec R.out R.ans R.lt]
    have e1 := A.pc
    have e2 := A.pos
    unfold M.exec
    rw [word0, R.op]
    simp only [op24]
    have w2 : ({ m with seen := m.seen.add 24 } : M).word 2 = least := by show m.code.getD (m.pc + 2) 0 = least; rw [A.code, A.pc]; exact h2
    have w3 : ({ m with seen := m.seen.add 24 } : M).word 3 = most := by show m.code.getD (m.pc + 3) 0 = most; rw [A.code, A.pc]; exact h3
    have w4 : ({ m with seen := m.seen.add 24 } : M).word 4 = K.code.getD (pc + 4) 0 := by show m.code.getD (m.pc + 4) 0 = _; rw [A.code, A.pc]
    rw [w2, w3, w4]
    rw [if_neg (by rw [A.lim, A.pos]; omega)]
    rw [A.lim, A.pos, A.pc, A.code, A.text]
    rw [show ((K.lim : Int) - (pos : Int)).toNat = K.lim - pos by omega]
    simp only [Bool.false_eq_true, if_false, hrun]
    rw [if_neg (by omega)]
    subst e1 e2
    have e4 : m.inner = inn := A.inn
    subst e4
    rfl
  exact ⟨m', RB.next A.out e r', ⟨R'.kc, R'.frames, R'.weight, R'.out, R'.ans, R'.size, R'.yes, R'.no⟩⟩
/-- by the text: what the run takes, then the rest -/
theorem Sfx.app {q : Nat} : ∀ {u v : List Nat}, Sfx K q (u ++ v) → Sfx K (q + u.length) v
  | [], v, h => h
  | c :: u, v, h => by
    have := Sfx.app (u := u) (v := v) (Sfx.tl h)
    rw [List.length_cons, show q + (u.length + 1) = q + 1 + u.length by omega]
    exact this
theorem takeWhile_app {p : Nat → Bool} {u v : List Nat} (hu : ∀ c ∈ u, p c = true) (hv : ∀ c v', v = c :: v' → p c = false) : (u ++ v).takeWhile p = u := by
  induction u with
  | nil =>
    cases v with
    | nil => rfl
    | cons c v => simp [hv c v rfl]
  | cons c u ih => simp [hu c (.head _), ih fun c' h' => hu c' (.tail _ h')]
theorem ex_repT {skip least : Nat} {p : Nat → Bool} {u v : List Nat} (hl : pc < K.code.size) (ho : K.code.getD pc 0 = 24) (h1 : K.code.getD (pc + 1) 0 = skip) (h2 : K.code.getD (pc + 2) 0 = least) (h3 : K.code.getD (pc + 3) 0 = 4294967295)
    (Ac : Acc K.code (pc + 4) p) (S : Sfx K pos (u ++ v)) (hz : (u ++ v).length ≤ 4294967295) (hu : ∀ c ∈ u, p c = true) (hv : ∀ c v', v = c :: v' → p c = false) (hc : least ≤ u.length)
    (ht : Ex a w K (pc + 1 + skip) (pos + u.length) om inn L k (some x)) : Ex (a + 2) (w + 1 + k.nm) K pc pos om inn L k (some x) :=
  ex_rep1 hl ho h1 h2 h3 Ac S.le (by rw [cnt_sfx _ _ S hz, takeWhile_app hu hv]) hc ht
theorem ex_rep0 {skip : Nat} {p : Nat → Bool} {v : List Nat} {r : Option Rs} (hl : pc < K.code.size) (ho : K.code.getD pc 0 = 24) (h1 : K.code.getD (pc + 1) 0 = skip) (h2 : K.code.getD (pc + 2) 0 = 0) (h3 : K.code.getD (pc + 3) 0 = 4294967295)
    (Ac : Acc K.code (pc + 4) p) (S : Sfx K pos v) (hv : ∀ c v', v = c :: v' → p c = false)
    (ht : Ex a w K (pc + 1 + skip) pos om inn L k r) : Ex (a + 2) (w + 1 + k.nm) K pc pos om inn L k r :=
  Ex.le (ex_rep (a := a) (w := w) (d := 0) (least := 0) (tail := fun _ => r) hl ho h1 h2 h3 Ac S.le (S.cnt0 hv) (fun j hj => by
    obtain rfl : j = 0 := by omega
    exact ht)) (by omega) (by omega)
theorem ex_repN {p : Nat → Bool} {v : List Nat} (hl : pc < K.code.size) (ho : K.code.getD pc 0 = 24) (h2 : K.code.getD (pc + 2) 0 = 1) (h3 : K.code.getD (pc + 3) 0 = 4294967295)
    (Ac : Acc K.code (pc + 4) p) (S : Sfx K pos v) (hv : ∀ c v', v = c :: v' → p c = false) : Ex 1 0 K pc pos om inn L k none :=
  ex_rep_no hl ho h2 h3 Ac (by rw [S.cnt0 hv]; omega)
end
/-! HEADER_TOKEN_RE -/
def sp (c : Nat) : Bool := Unicode.isSpace c
def tokc : List Nat := [14, 4, 0, 1, 4294967295, 6, 0, 24, 9, 0, 4294967295, 13, 4, 8, 12, 0, 1, 17, 0, 24, 19, 1, 4294967295, 13, 14, 21, 9, 0, 671092736, 0, 0, 0, 0, 0, 0, 8, 12, 0, 1, 17, 1, 1]
def nt (c : Nat) : Bool := !(c == 44 || c == 59 || c == 61) && !sp c
theorem tok_bits : ∀ c, c < 256 → (decide (c < 256) && (tokc.toArray.getD (26 + (1 + c / 32)) 0).testBit (c % 32)) = (c == 44 || c == 59 || c == 61) := by decide +kernel
theorem tok_bits' (c : Nat) : (decide (c < 256) && (tokc.toArray.getD (26 + (1 + c / 32)) 0).testBit (c % 32)) = (c == 44 || c == 59 || c == 61) := by
  by_cases h : c < 256
  · exact tok_bits c h
  · have h1 : (c == 44) = false := beq_eq_false_iff_ne.mpr (by omega)
    have h2 : (c == 59) = false := beq_eq_false_iff_ne.mpr (by omega)
    have h3 : (c == 61) = false := beq_eq_false_iff_ne.mpr (by omega)
    simp [h, h1, h2, h3]
theorem acc_tok11 : Acc tokc.toArray 11 sp := (acc_in (i := 11) rfl (ins_cat (i := 13) (k := 12) (q := sp) rfl rfl cat_space (ins_fail rfl))).congr fun c => by cases sp c <;> rfl
theorem acc_tok23 : Acc tokc.toArray 23 nt := (acc_in (i := 23) rfl (ins_neg (i := 25) rfl (ins_charset (i := 26) rfl (ins_cat (i := 35) (k := 12) (q := sp) rfl rfl cat_space (ins_fail rfl))))).congr fun c => by
  rw [tok_bits']
  unfold nt
  cases (c == 44 || c == 59 || c == 61) <;> cases sp c <;> rfl
theorem nt_sp {c : Nat} (h : nt c = true) : sp c = false := by
  unfold nt at h
  simp at h
  exact h.2
theorem tok_fs (m : M) (h : m.code = tokc.toArray) : m.hasFirstSet = false := by unfold M.hasFirstSet; rw [h]; rfl
theorem tok_no {u : List Nat} (hu : ∀ c v, u = c :: v → nt c = false ∧ sp c = false) (hne : u ≠ []) (hz : u.length ≤ 1000000) : Runs ((u.length + 1) * 12 + 1) (Sre.forSearch tokc.toArray u.toArray 1 0 u.length false) 2 none := by
  have hpos : 1 ≤ u.length := by cases u with | nil => exact absurd rfl hne | cons c u => simp
  refine Runs.le (caret_search (groups := 1) (a := 10) (w := 10) (ls := u.length) (r := none) (code := tokc) (l := u) (least := 1) (pc := 5) rfl (by decide) hpos (by rfl) tok_fs (by decide) rfl rfl (by decide) ?_) (by omega)
  have S := sfx0 (code := tokc) (l := u) (ls := u.length) (s := 0) (b := false) 0 (Nat.zero_le _)
  rw [List.drop_zero] at S
  refine Ex.le (ex_rep0 (a := 2) (w := 0) (skip := 9) (p := sp) (v := u) (by show _ < tokc.toArray.size; decide) rfl rfl rfl rfl acc_tok11 S (fun c v e => (hu c v e).2) ?_) (by decide) (by decide)
  refine Ex.le (ex_mark (a := 1) (i := 0) (by show _ < tokc.toArray.size; decide) rfl rfl (by decide) (by decide) ?_) (by decide) (Nat.le_refl _)
  exact ex_repN (p := nt) (v := u) (by show _ < tokc.toArray.size; decide) rfl rfl rfl acc_tok23 S (fun c v e => (hu c v e).1)
def tokX (b e : Nat) : Rs := ⟨((k0 2).set 0 b).set 1 e, e⟩
theorem tok_yes {ws tk rest : List Nat} (hw : ∀ c ∈ ws, sp c = true) (ht : ∀ c ∈ tk, nt c = true) (hne : tk ≠ []) (hr : ∀ c v, rest = c :: v → nt c = false) (hz : (ws ++ tk ++ rest).length ≤ 1000000) :
    Runs (((ws ++ tk ++ rest).length + 1) * 12 + 1) (Sre.forSearch tokc.toArray (ws ++ tk ++ rest).toArray 1 0 (ws ++ tk ++ rest).length false) 2 (some (0, tokX ws.length (ws.length + tk.length))) := by
  have hpos : 1 ≤ tk.length := by cases tk with | nil => exact absurd rfl hne | cons c u => simp
  have hlen : (ws ++ tk ++ rest).length = ws.length + tk.length + rest.length := by simp; omega
  generalize hu : ws ++ tk ++ rest = u at *
  refine Runs.le (caret_search (groups := 1) (a := 10) (w := 10) (ls := u.length) (r := some (tokX ws.length (ws.length + tk.length))) (code := tokc) (l := u) (least := 1) (pc := 5) rfl (by decide) (by omega) (by rfl) tok_fs (by decide) rfl rfl (by decide) ?_) (by omega)
  have S := sfx0 (code := tokc) (l := u) (ls := u.length) (s := 0) (b := false) 0 (Nat.zero_le _)
  rw [List.drop_zero] at S
  have S : Sfx ((kc tokc u u.length).at 0 false) 0 (ws ++ (tk ++ rest)) := by rw [← List.append_assoc, hu]; exact S
  have S2 := S.app
  rw [Nat.zero_add] at S2
  refine Ex.le (ex_repT (a := 6) (w := 4) (skip := 9) (least := 0) (p := sp) (u := ws) (v := tk ++ rest) (by show _ < tokc.toArray.size; decide) rfl rfl rfl rfl acc_tok11 S (by rw [← List.append_assoc, hu]; omega) hw (fun c v e => ?_) (Nat.zero_le _) ?_) (by decide) (by decide)
  · cases tk with
    | nil => exact absurd rfl hne
    | cons d tk => cases e; exact nt_sp (ht _ (.head _))
  rw [Nat.zero_add]
  refine Ex.le (ex_mark (a := 4) (i := 0) (by show _ < tokc.toArray.size; decide) rfl rfl (by decide) (by decide) ?_) (by decide) (Nat.le_refl _)
  refine Ex.le (ex_repT (a := 2) (w := 0) (skip := 19) (least := 1) (p := nt) (u := tk) (v := rest) (by show _ < tokc.toArray.size; decide) rfl rfl rfl rfl acc_tok23 S2 (by simp; omega) ht hr hpos ?_) (by decide) (by show 0 + 1 + 2 ≤ 4; decide)
  refine ex_mark (a := 1) (i := 1) (by show _ < tokc.toArray.size; decide) rfl rfl (by show 1 < 2; decide) (by show max (-1 : Int) 0 < 1; decide) ?_
  exact ex_success (by show _ < tokc.toArray.size; decide) rfl (by rfl)
end Mine
namespace Mine
open PySem
open PySem.Sre (M Seen)
/-! HEADER_VALUE_RE -/
def valc : List Nat := [14, 4, 0, 1, 4294967295, 6, 0, 24, 9, 0, 4294967295, 13, 4, 8, 12, 0, 1, 16, 61, 24, 9, 0, 4294967295, 13, 4, 8, 12, 0, 1, 17, 0, 24, 14, 0, 4294967295, 13, 9, 21, 8, 12, 16, 59, 16, 44, 0, 1, 17, 1, 1]
def vch (c : Nat) : Bool := !sp c && !(c == 59 || c == 44)
theorem sp61 : sp 61 = false := by decide +kernel
theorem acc_val11 : Acc valc.toArray 11 sp := (acc_in (i := 11) rfl (ins_cat (i := 13) (k := 12) (q := sp) rfl rfl cat_space (ins_fail rfl))).congr fun c => by cases sp c <;> rfl
theorem acc_val23 : Acc valc.toArray 23 sp := (acc_in (i := 23) rfl (ins_cat (i := 25) (k := 12) (q := sp) rfl rfl cat_space (ins_fail rfl))).congr fun c => by cases sp c <;> rfl
theorem acc_val17 : Acc valc.toArray 17 (fun c => c == 61) := acc_lit rfl rfl
theorem acc_val35 : Acc valc.toArray 35 vch := (acc_in (i := 35) rfl (ins_neg (i := 37) rfl (ins_cat (i := 38) (k := 12) (q := sp) rfl rfl cat_space (ins_lit (i := 40) (a := 59) rfl rfl (ins_lit (i := 42) (a := 44) rfl rfl (ins_fail rfl)))))).congr fun c => by
  unfold vch
  cases sp c <;> cases c == 59 <;> cases c == 44 <;> rfl
theorem val_fs (m : M) (h : m.code = valc.toArray) : m.hasFirstSet = false := by unfold M.hasFirstSet; rw [h]; rfl
theorem val_nil : Runs 1 (Sre.forSearch valc.toArray ([] : List Nat).toArray 1 0 ([] : List Nat).length false) 2 none := fs_no (code := valc) (l := []) (groups := 1) (p := 0) (least := 1) (pc := 5) rfl (by decide)
theorem val_no {u : List Nat} (hu : ∀ c v, u = c :: v → sp c = false ∧ c ≠ 61) (hz : u.length ≤ 1000000) : Runs ((u.length + 1) * 12 + 1) (Sre.forSearch valc.toArray u.toArray 1 0 u.length false) 2 none := by
  cases hne : u with
  | nil => exact val_nil.le (by omega)
  | cons c0 u0 =>
  rw [← hne]
  have hpos : 1 ≤ u.length := by rw [hne]; simp
  refine Runs.le (caret_search (groups := 1) (a := 10) (w := 10) (ls := u.length) (r := none) (code := valc) (l := u) (least := 1) (pc := 5) rfl (by decide) hpos (by rfl) val_fs (by decide) rfl rfl (by decide) ?_) (by omega)
  have S := sfx0 (code := valc) (l := u) (ls := u.length) (s := 0) (b := false) 0 (Nat.zero_le _)
  rw [List.drop_zero] at S
  refine Ex.le (ex_rep0 (a := 2) (w := 0) (skip := 9) (p := sp) (v := u) (by show _ < valc.toArray.size; decide) rfl rfl rfl rfl acc_val11 S (fun c v e => (hu c v e).1) ?_) (by decide) (by decide)
  refine Ex.le (ex_item_no (op := 16) (p := fun c => c == 61) (by show _ < valc.toArray.size; decide) rfl rfl acc_val17 (fun h => ?_)) (by decide) (by decide)
  have S' := S
  rw [hne] at S'
  have := (hu c0 u0 hne).2
  rw [show ((kc valc u u.length).at 0 false).text.getD 0 0 = c0 from by
    show u.toArray.getD 0 0 = c0
    rw [hne]; rfl]
  exact beq_eq_false_iff_ne.mpr this
theorem val_yes {v rest : List Nat} (hv : ∀ c ∈ v, vch c = true) (hsp : ∀ c t, v ++ rest = c :: t → sp c = false) (hr : ∀ c t, rest = c :: t → vch c = false) (hz : (61 :: (v ++ rest)).length ≤ 1000000) :
    Runs (((61 :: (v ++ rest)).length + 1) * 22 + 1) (Sre.forSearch valc.toArray (61 :: (v ++ rest)).toArray 1 0 (61 :: (v ++ rest)).length false) 2 (some (0, tokX 1 (1 + v.length))) := by
  generalize hu : 61 :: (v ++ rest) = u at *
  have hlen : u.length = 1 + v.length + rest.length := by rw [← hu]; simp; omega
  refine Runs.le (caret_search (groups := 1) (a := 20) (w := 20) (ls := u.length) (r := some (tokX 1 (1 + v.length))) (code := valc) (l := u) (least := 1) (pc := 5) rfl (by decide) (by omega) (by rfl) val_fs (by decide) rfl rfl (by decide) ?_) (by omega)
  have S0 := sfx0 (code := valc) (l := u) (ls := u.length) (s := 0) (b := false) 0 (Nat.zero_le _)
  rw [List.drop_zero] at S0
  have S : Sfx ((kc valc u u.length).at 0 false) 0 (61 :: (v ++ rest)) := by rw [hu]; exact S0
  refine Ex.le (ex_rep0 (a := 10) (w := 10) (skip := 9) (p := sp) (v := 61 :: (v ++ rest)) (by show _ < valc.toArray.size; decide) rfl rfl rfl rfl acc_val11 S (fun c v e => by cases e; exact sp61) ?_) (by decide) (by decide)
  refine Ex.le (ex_item (a := 8) (op := 16) (wd := 2) (p := fun c => c == 61) (by show _ < valc.toArray.size; decide) rfl rfl rfl acc_val17 S.lt (by rw [S.hd]; rfl) ?_) (by decide) (Nat.le_refl _)
  have S1 := S.tl
  refine Ex.le (ex_rep0 (a := 6) (w := 6) (skip := 9) (p := sp) (v := v ++ rest) (by show _ < valc.toArray.size; decide) rfl rfl rfl rfl acc_val23 S1 hsp ?_) (by decide) (by show 6 + 1 + 2 ≤ 10; decide)
  refine Ex.le (ex_mark (a := 4) (i := 0) (by show _ < valc.toArray.size; decide) rfl rfl (by decide) (by decide) ?_) (by decide) (Nat.le_refl _)
  refine Ex.le (ex_repT (a := 2) (w := 0) (skip := 14) (least := 0) (p := vch) (u := v) (v := rest) (by show _ < valc.toArray.size; decide) rfl rfl rfl rfl acc_val35 S1 (by simp; omega) hv hr (Nat.zero_le _) ?_) (by decide) (by show 0 + 1 + 2 ≤ 6; decide)
  refine ex_mark (a := 1) (i := 1) (by show _ < valc.toArray.size; decide) rfl rfl (by show 1 < 2; decide) (by show max (-1 : Int) 0 < 1; decide) ?_
  exact ex_success (by show _ < valc.toArray.size; decide) rfl (by rfl)
/-! _twin_re_9 -/
def twc : List Nat := [14, 4, 0, 0, 4294967295, 6, 0, 24, 13, 0, 4294967295, 13, 8, 16, 61, 8, 12, 16, 59, 0, 1, 1]
def jch (c : Nat) : Bool := c == 61 || sp c || c == 59
theorem acc_tw11 : Acc twc.toArray 11 jch := (acc_in (i := 11) rfl (ins_lit (i := 13) (a := 61) rfl rfl (ins_cat (i := 15) (k := 12) (q := sp) rfl rfl cat_space (ins_lit (i := 17) (a := 59) rfl rfl (ins_fail rfl))))).congr fun c => by
  unfold jch
  cases c == 61 <;> cases sp c <;> cases c == 59 <;> rfl
theorem tw_fs (m : M) (h : m.code = twc.toArray) : m.hasFirstSet = false := by unfold M.hasFirstSet; rw [h]; rfl
theorem tw_yes {j rest : List Nat} (hj : ∀ c ∈ j, jch c = true) (hr : ∀ c t, rest = c :: t → jch c = false) (hz : (j ++ rest).length ≤ 1000000) :
    Runs (((j ++ rest).length + 1) * 12 + 1) (Sre.forSearch twc.toArray (j ++ rest).toArray 0 0 (j ++ rest).length false) 0 (some (0, ⟨k0 0, j.length⟩)) := by
  generalize hu : j ++ rest = u at *
  refine Runs.le (caret_search (groups := 0) (a := 10) (w := 10) (ls := u.length) (r := some ⟨k0 0, j.length⟩) (code := twc) (l := u) (least := 0) (pc := 5) rfl (by decide) (by omega) (by rfl) tw_fs (by decide) rfl rfl (by decide) ?_) (by omega)
  have S0 := sfx0 (code := twc) (l := u) (ls := u.length) (s := 0) (b := false) 0 (Nat.zero_le _)
  rw [List.drop_zero] at S0
  have S : Sfx ((kc twc u u.length).at 0 false) 0 (j ++ rest) := by rw [hu]; exact S0
  refine Ex.le (ex_repT (a := 1) (w := 0) (skip := 13) (least := 0) (p := jch) (u := j) (v := rest) (by show _ < twc.toArray.size; decide) rfl rfl rfl rfl acc_tw11 S (by rw [hu]; omega) hj hr (Nat.zero_le _) ?_) (by decide) (by decide)
  rw [Nat.zero_add]
  exact ex_success (by show _ < twc.toArray.size; decide) rfl (by rfl)
theorem tw_later {u : List Nat} {p : Nat} (hp : p ≤ u.length) (hp0 : 0 < p) : Runs ((u.length + 1) * 2 + 1) (Sre.forSearch twc.toArray u.toArray 0 p u.length false) 0 none :=
  caret_later (groups := 0) (code := twc) (l := u) (pc := 5) rfl (by decide) hp hp0 tw_fs (by decide) rfl rfl
/-! HEADER_QUOTED_VALUE_RE -/
def quoc : List Nat := [14, 4, 0, 3, 4294967295, 6, 0, 24, 9, 0, 4294967295, 13, 4, 8, 12, 0, 1, 16, 61, 24, 9, 0, 4294967295, 13, 4, 8, 12, 0, 1, 16, 34, 17, 0, 24, 12, 0, 4294967295, 13, 7, 21, 16, 34, 16, 92, 0, 1, 23, 19, 0, 4294967295, 16, 92, 2, 24, 12, 0, 4294967295, 13, 7, 21, 16, 34, 16, 92, 0, 1, 18, 17, 1, 16, 34, 1]
def qch (c : Nat) : Bool := !(c == 34 || c == 92)
theorem acc_q11 : Acc quoc.toArray 11 sp := (acc_in (i := 11) rfl (ins_cat (i := 13) (k := 12) (q := sp) rfl rfl cat_space (ins_fail rfl))).congr fun c => by cases sp c <;> rfl
theorem acc_q23 : Acc quoc.toArray 23 sp := (acc_in (i := 23) rfl (ins_cat (i := 25) (k := 12) (q := sp) rfl rfl cat_space (ins_fail rfl))).congr fun c => by cases sp c <;> rfl
theorem acc_q17 : Acc quoc.toArray 17 (fun c => c == 61) := acc_lit rfl rfl
theorem acc_q29 : Acc quoc.toArray 29 (fun c => c == 34) := acc_lit rfl rfl
theorem acc_q50 : Acc quoc.toArray 50 (fun c => c == 92) := acc_lit rfl rfl
theorem acc_q52 : Acc quoc.toArray 52 (fun c => c != 10) := acc_any rfl
theorem acc_q69 : Acc quoc.toArray 69 (fun c => c == 34) := acc_lit rfl rfl
theorem acc_q37 : Acc quoc.toArray 37 qch := (acc_in (i := 37) rfl (ins_neg (i := 39) rfl (ins_lit (i := 40) (a := 34) rfl rfl (ins_lit (i := 42) (a := 92) rfl rfl (ins_fail rfl))))).congr fun c => by
  unfold qch
  cases c == 34 <;> cases c == 92 <;> rfl
theorem acc_q57 : Acc quoc.toArray 57 qch := (acc_in (i := 57) rfl (ins_neg (i := 59) rfl (ins_lit (i := 60) (a := 34) rfl rfl (ins_lit (i := 62) (a := 92) rfl rfl (ins_fail rfl))))).congr fun c => by
  unfold qch
  cases c == 34 <;> cases c == 92 <;> rfl
theorem quo_fs (m : M) (h : m.code = quoc.toArray) : m.hasFirstSet = false := by unfold M.hasFirstSet; rw [h]; rfl
theorem quo_no1 {u : List Nat} (hu : ∀ c v, u = c :: v → sp c = false ∧ c ≠ 61) (hz : u.length ≤ 1000000) : Runs ((u.length + 1) * 12 + 1) (Sre.forSearch quoc.toArray u.toArray 1 0 u.length false) 2 none := by
  by_cases hl : u.length < 3
  · exact (fs_no (code := quoc) (l := u) (groups := 1) (p := 0) (least := 3) (pc := 5) rfl (by omega)).le (by omega)
  cases hne : u with
  | nil => rw [hne] at hl; simp at hl
  | cons c0 u0 =>
  rw [← hne]
  refine Runs.le (caret_search (groups := 1) (a := 10) (w := 10) (ls := max 0 (u.length - (3 - 1))) (r := none) (code := quoc) (l := u) (least := 3) (pc := 5) rfl (by decide) (by omega) (by rfl) quo_fs (by decide) rfl rfl (by decide) ?_) (by omega)
  have S := sfx0 (code := quoc) (l := u) (ls := max 0 (u.length - (3 - 1))) (s := 0) (b := false) 0 (Nat.zero_le _)
  rw [List.drop_zero] at S
  refine Ex.le (ex_rep0 (a := 2) (w := 0) (skip := 9) (p := sp) (v := u) (by show _ < quoc.toArray.size; decide) rfl rfl rfl rfl acc_q11 S (fun c v e => (hu c v e).1) ?_) (by decide) (by decide)
  refine Ex.le (ex_item_no (op := 16) (p := fun c => c == 61) (by show _ < quoc.toArray.size; decide) rfl rfl acc_q17 (fun h => ?_)) (by decide) (by decide)
  have := (hu c0 u0 hne).2
  rw [show ((kc quoc u (max 0 (u.length - (3 - 1)))).at 0 false).text.getD 0 0 = c0 from by
    show u.toArray.getD 0 0 = c0
    rw [hne]; rfl]
  exact beq_eq_false_iff_ne.mpr this
theorem quo_no2 {u : List Nat} (hu : ∀ c v, u = c :: v → sp c = false ∧ c ≠ 34) (hz : (61 :: u).length ≤ 1000000) : Runs (((61 :: u).length + 1) * 22 + 1) (Sre.forSearch quoc.toArray (61 :: u).toArray 1 0 (61 :: u).length false) 2 none := by
  by_cases hl : (61 :: u).length < 3
  · exact (fs_no (code := quoc) (l := 61 :: u) (groups := 1) (p := 0) (least := 3) (pc := 5) rfl (by omega)).le (by omega)
  cases hne : u with
  | nil => rw [hne] at hl; simp at hl
  | cons c0 u0 =>
  rw [← hne]
  refine Runs.le (caret_search (groups := 1) (a := 20) (w := 20) (ls := max 0 ((61 :: u).length - (3 - 1))) (r := none) (code := quoc) (l := 61 :: u) (least := 3) (pc := 5) rfl (by decide) (by omega) (by rfl) quo_fs (by decide) rfl rfl (by decide) ?_) (by omega)
  have S := sfx0 (code := quoc) (l := 61 :: u) (ls := max 0 ((61 :: u).length - (3 - 1))) (s := 0) (b := false) 0 (Nat.zero_le _)
  rw [List.drop_zero] at S
  refine Ex.le (ex_rep0 (a := 10) (w := 10) (skip := 9) (p := sp) (v := 61 :: u) (by show _ < quoc.toArray.size; decide) rfl rfl rfl rfl acc_q11 S (fun c v e => by cases e; exact sp61) ?_) (by decide) (by decide)
  refine Ex.le (ex_item (a := 8) (op := 16) (wd := 2) (p := fun c => c == 61) (by show _ < quoc.toArray.size; decide) rfl rfl rfl acc_q17 S.lt (by rw [S.hd]; rfl) ?_) (by decide) (Nat.le_refl _)
  have S1 := S.tl
  refine Ex.le (ex_rep0 (a := 2) (w := 0) (skip := 9) (p := sp) (v := u) (by show _ < quoc.toArray.size; decide) rfl rfl rfl rfl acc_q23 S1 (fun c v e => (hu c v e).1) ?_) (by decide) (by decide)
  refine Ex.le (ex_item_no (op := 16) (p := fun c => c == 34) (by show _ < quoc.toArray.size; decide) rfl rfl acc_q29 (fun h => ?_)) (by decide) (by decide)
  have := (hu c0 u0 hne).2
  rw [show ((kc quoc (61 :: u) (max 0 ((61 :: u).length - (3 - 1)))).at 0 false).text.getD (0 + 1) 0 = c0 from by
    show (61 :: u).toArray.getD 1 0 = c0
    rw [hne]; rfl]
  exact beq_eq_false_iff_ne.mpr this
end Mine
namespace Mine
open PySem
open PySem.Sre (M Seen)
def segs (sg : List (Nat × List Nat)) : List Nat := sg.flatMap fun s => 92 :: s.1 :: s.2
theorem segs_cons (c : Nat) (p : List Nat) (sg : List (Nat × List Nat)) : segs ((c, p) :: sg) = 92 :: c :: (p ++ segs sg) := by unfold segs; rw [List.flatMap_cons]; rfl
section
variable {K : Kc} {q : Nat} {om : Bool} {inn : Option Nat} {L : Array Sre.Loop} {k : Mk} {rest : List Nat}
theorem ex_qtail (hK : K.code = quoc.toArray) (hw : K.whole = false) (hm : K.must = false) (hk : k.nm = 2) (hlm : k.lm = 0) (S : Sfx K q (34 :: rest)) : Ex 3 0 K 67 q om inn L k (some ⟨k.set 1 q, q + 1⟩) := by
  refine ex_mark (a := 2) (i := 1) (by rw [hK]; decide) (by rw [hK]; rfl) (by rw [hK]; rfl) (by omega) (by omega) ?_
  refine ex_item (a := 1) (op := 16) (wd := 2) (p := fun c => c == 34) (by rw [hK]; decide) (by rw [hK]; rfl) rfl (by rw [hK]; rfl) (by rw [hK]; exact acc_q69) S.lt (by rw [S.hd]; rfl) ?_
  exact ex_success (by rw [hK]; decide) (by rw [hK]; rfl) (by rw [hw, hm]; cases om <;> rfl)
theorem ex_qtail_no {c : Nat} (hK : K.code = quoc.toArray) (hk : k.nm = 2) (hlm : k.lm = 0) (S : Sfx K q (c :: rest)) (hc : c ≠ 34) : Ex 3 0 K 67 q om inn L k none := by
  refine Ex.le (ex_mark (a := 1) (i := 1) (by rw [hK]; decide) (by rw [hK]; rfl) (by rw [hK]; rfl) (by omega) (by omega) ?_) (by decide) (Nat.le_refl _)
  exact ex_item_no (op := 16) (p := fun c => c == 34) (by rw [hK]; decide) (by rw [hK]; rfl) rfl (by rw [hK]; exact acc_q69) (fun h => by rw [S.hd]; exact beq_eq_false_iff_ne.mpr hc)
theorem seg_head {sg : List (Nat × List Nat)} {c : Nat} {v : List Nat} (h : segs sg ++ 34 :: rest = c :: v) : qch c = false := by
  cases sg with
  | nil => cases h; rfl
  | cons s sg => obtain ⟨c', p⟩ := s; rw [segs_cons] at h; cases h; rfl
theorem ex_quntil (hK : K.code = quoc.toArray) (hw : K.whole = false) (hm : K.must = false) (hk : k.nm = 2) (hlm : k.lm = 0) (hz : K.lim ≤ 1000000) {i : Nat} : ∀ (sg : List (Nat × List Nat)) {q : Nat} {L : Array Sre.Loop} {l : Sre.Loop}, (∀ s ∈ sg, s.1 ≠ 10 ∧ ∀ c ∈ s.2, qch c = true) → Sfx K q (segs sg ++ 34 :: rest) →
    i < L.size → L.getD i { pc := 0, outer := none } = l → l.pc = 46 → -1 ≤ l.count → (∀ b, l.began = some b → b < q) →
    Ex (20 * (sg.length + 1)) (10 * (sg.length + 1)) K 66 q om (some i) L k (some ⟨k.set 1 (q + (segs sg).length), q + (segs sg).length + 1⟩)
  | [], q, L, l, _, S, hi, hL, hpc, hc, hb => by
    have hbg : (l.began != some q) = true := by
      rw [bne_iff_ne]
      intro e
      exact Nat.lt_irrefl _ (hb q e)
    refine Ex.le (ex_until (a := 1) (w := 0) (a' := 3) (w' := 0) (most := 4294967295) (rb := none) (rt := some ⟨k.set 1 q, q + 1⟩) (by rw [hK]; decide) (by rw [hK]; rfl) hi hL (by rw [hK, hpc]; rfl) (by rw [hK, hpc]; rfl) hc (by rw [hbg, Bool.and_true, Bool.or_eq_true]; exact .inr rfl) ?_ (ex_qtail hK hw hm hk hlm S)) (by decide) (by omega)
    rw [hpc]
    exact ex_item_no (op := 16) (p := fun c => c == 92) (by rw [hK]; decide) (by rw [hK]; rfl) rfl (by rw [hK]; exact acc_q50) (fun h => by rw [S.hd]; rfl)
  | (c, p) :: sg, q, L, l, hsg, S, hi, hL, hpc, hc, hb => by
    have hbg : (l.began != some q) = true := by
      rw [bne_iff_ne]
      intro e
      exact Nat.lt_irrefl _ (hb q e)
    rw [segs_cons] at S ⊢
    have S : Sfx K q (92 :: c :: (p ++ (segs sg ++ 34 :: rest))) := by simpa using S
    obtain ⟨hc10, hp⟩ := hsg (c, p) (.head _)
    have S3 := (S.tl.tl).app
    have hlen := S.lim
    have ih := ex_quntil hK hw hm hk hlm hz (i := i) sg (q := q + 1 + 1 + p.length) (L := L.modify i fun x => { x with count := l.count + 1, began := some q }) (l := { l with count := l.count + 1, began := some q }) (fun s hs => hsg s (.tail _ hs)) S3
      (by rw [Array.size_modify]; exact hi) (by rw [getD_modify_self hi, hL]) hpc (by show (-1 : Int) ≤ l.count + 1; omega) (fun b e => by cases e; omega)
    have e1 : q + (92 :: c :: (p ++ segs sg)).length = q + 1 + 1 + p.length + (segs sg).length := by simp; omega
    rw [e1]
    generalize hX : (⟨k.set 1 (q + 1 + 1 + p.length + (segs sg).length), q + 1 + 1 + p.length + (segs sg).length + 1⟩ : Rs) = X at ih ⊢
    refine Ex.le (ex_until (a := 20 * (sg.length + 1) + 4) (w := 10 * (sg.length + 1) + 3) (a' := 3) (w' := 0) (most := 4294967295) (rb := some X) (rt := none) (by rw [hK]; decide) (by rw [hK]; rfl) hi hL (by rw [hK, hpc]; rfl) (by rw [hK, hpc]; rfl) hc (by rw [hbg, Bool.and_true, Bool.or_eq_true]; exact .inr rfl) ?_ (ex_qtail_no hK hk hlm S (by decide))) (by simp; omega) (by simp; omega)
    rw [hpc]
    refine Ex.le (ex_item (a := 20 * (sg.length + 1) + 3) (op := 16) (wd := 2) (p := fun c => c == 92) (by rw [hK]; decide) (by rw [hK]; rfl) rfl (by rw [hK]; rfl) (by rw [hK]; exact acc_q50) S.lt (by rw [S.hd]; rfl) ?_) (by omega) (Nat.le_refl _)
    refine Ex.le (ex_item (a := 20 * (sg.length + 1) + 2) (op := 2) (wd := 1) (p := fun c => c != 10) (by rw [hK]; decide) (by rw [hK]; rfl) rfl (by rw [hK]; rfl) (by rw [hK]; exact acc_q52) S.tl.lt (by rw [S.tl.hd, bne_iff_ne]; exact hc10) ?_) (by omega) (Nat.le_refl _)
    refine Ex.le (ex_repT (a := 20 * (sg.length + 1)) (w := 10 * (sg.length + 1)) (skip := 12) (least := 0) (p := qch) (u := p) (v := segs sg ++ 34 :: rest) (by rw [hK]; decide) (by rw [hK]; rfl) (by rw [hK]; rfl) (by rw [hK]; rfl) (by rw [hK]; rfl) (by rw [hK]; exact acc_q57) S.tl.tl (by simp at hlen ⊢; omega) hp (fun c' v' e => seg_head e) (Nat.zero_le _) ih) (by omega) (by omega)
end
def quoT (p0 : List Nat) (sg : List (Nat × List Nat)) (rest : List Nat) : List Nat := 61 :: 34 :: (p0 ++ (segs sg ++ 34 :: rest))
theorem quo_yes {p0 rest : List Nat} {sg : List (Nat × List Nat)} (hp : ∀ c ∈ p0, qch c = true) (hsg : ∀ s ∈ sg, s.1 ≠ 10 ∧ ∀ c ∈ s.2, qch c = true) (hz : (quoT p0 sg rest).length ≤ 500000) :
    Runs (((quoT p0 sg rest).length + 1) * (20 * (sg.length + 1) + 102) + 1) (Sre.forSearch quoc.toArray (quoT p0 sg rest).toArray 1 0 (quoT p0 sg rest).length false) 2 (some (0, ⟨((k0 2).set 0 2).set 1 (2 + p0.length + (segs sg).length), 2 + p0.length + (segs sg).length + 1⟩)) := by
  generalize hu : quoT p0 sg rest = u at *
  have hlen : u.length = 3 + p0.length + (segs sg).length + rest.length := by rw [← hu]; simp [quoT]; omega
  have hsl : sg.length * 2 ≤ (segs sg).length := by
    clear hu hlen hsg
    induction sg with
    | nil => simp [segs]
    | cons s sg ih => obtain ⟨c, p⟩ := s; rw [segs_cons]; simp; omega
  refine caret_search (groups := 1) (a := 20 * (sg.length + 1) + 100) (w := 10 * (sg.length + 1) + 100) (ls := max 0 (u.length - (3 - 1))) (code := quoc) (l := u) (least := 3) (pc := 5) (r := some ⟨((k0 2).set 0 2).set 1 (2 + p0.length + (segs sg).length), 2 + p0.length + (segs sg).length + 1⟩) rfl (by decide) (by omega) (by rfl) quo_fs (by decide) rfl rfl (by omega) ?_
  have S0 := sfx0 (code := quoc) (l := u) (ls := max 0 (u.length - (3 - 1))) (s := 0) (b := false) 0 (Nat.zero_le _)
  rw [List.drop_zero] at S0
  have S : Sfx ((kc quoc u (max 0 (u.length - (3 - 1)))).at 0 false) 0 (61 :: 34 :: (p0 ++ (segs sg ++ 34 :: rest))) := by rw [show 61 :: 34 :: (p0 ++ (segs sg ++ 34 :: rest)) = u from hu]; exact S0
  refine Ex.le (ex_rep0 (a := 20 * (sg.length + 1) + 50) (w := 10 * (sg.length + 1) + 50) (skip := 9) (p := sp) (v := 61 :: 34 :: (p0 ++ (segs sg ++ 34 :: rest))) (by show _ < quoc.toArray.size; decide) rfl rfl rfl rfl acc_q11 S (fun c v e => by cases e; exact sp61) ?_) (by omega) (by show _ + 1 + 2 ≤ _; omega)
  refine Ex.le (ex_item (a := 20 * (sg.length + 1) + 40) (op := 16) (wd := 2) (p := fun c => c == 61) (by show _ < quoc.toArray.size; decide) rfl rfl rfl acc_q17 S.lt (by rw [S.hd]; rfl) ?_) (by omega) (Nat.le_refl _)
  refine Ex.le (ex_rep0 (a := 20 * (sg.length + 1) + 30) (w := 10 * (sg.length + 1) + 30) (skip := 9) (p := sp) (v := 34 :: (p0 ++ (segs sg ++ 34 :: rest))) (by show _ < quoc.toArray.size; decide) rfl rfl rfl rfl acc_q23 S.tl (fun c v e => by cases e; decide +kernel) ?_) (by omega) (by show _ + 1 + 2 ≤ _; omega)
  refine Ex.le (ex_item (a := 20 * (sg.length + 1) + 20) (op := 16) (wd := 2) (p := fun c => c == 34) (by show _ < quoc.toArray.size; decide) rfl rfl rfl acc_q29 S.tl.lt (by rw [S.tl.hd]; rfl) ?_) (by omega) (Nat.le_refl _)
  refine Ex.le (ex_mark (a := 20 * (sg.length + 1) + 10) (i := 0) (by show _ < quoc.toArray.size; decide) rfl rfl (by decide) (by decide) ?_) (by omega) (Nat.le_refl _)
  have S3 := (S.tl.tl).app
  refine Ex.le (ex_repT (a := 20 * (sg.length + 1) + 2) (w := 10 * (sg.length + 1) + 1) (skip := 12) (least := 0) (p := qch) (u := p0) (v := segs sg ++ 34 :: rest) (by show _ < quoc.toArray.size; decide) rfl rfl rfl rfl acc_q37 S.tl.tl (by simp; omega) hp (fun c' v' e => seg_head e) (Nat.zero_le _) ?_) (by omega) (by show _ + 1 + 2 ≤ _; omega)
  refine ex_repeat (a := 20 * (sg.length + 1)) (w := 10 * (sg.length + 1)) (skip := 19) (by show _ < quoc.toArray.size; decide) rfl rfl ?_
  have hL : ((#[] : Array Sre.Loop).push { pc := 46, outer := none }).getD (#[] : Array Sre.Loop).size { pc := 0, outer := none } = { pc := 46, outer := none } := rfl
  exact ex_quntil (k := (k0 2).set 0 2) rfl rfl rfl rfl rfl (by show u.length ≤ _; omega) sg hsg S3 (by decide) hL rfl (by decide) (fun b e => by cases e)
end Mine
namespace Mine
open PySem
open PySem.Sre (M Seen)
/-! a match of the whole text -/
def kw (code l : List Nat) : Kc := { code := code.toArray, text := l.toArray, lim := l.length, start := 0, lastStart := 0, whole := true, must := false }
theorem fm_go {code l : List Nat} {groups least pc a w : Nat} {r : Option Rs} (hh : Sre.header code.toArray = (least, pc)) (hl : least ≤ l.length) (hw : w ≤ 16777216)
    (h : Ex a w (kw code l) pc 0 true none #[] (k0 (2 * groups)) r) : Runs (a + 1) (Sre.forMatch code.toArray l.toArray groups 0 l.length true false) (2 * groups) (r.map fun x => (0, x)) := by
  have e1 : (Sre.header code.toArray).1 = least := by rw [hh]
  have e2 : (Sre.header code.toArray).2 = pc := by rw [hh]
  have e : Sre.forMatch code.toArray l.toArray groups 0 l.length true false = { m0 code l groups 0 (Sre.header code.toArray).2 0 with wholeText := true } := by
    unfold Sre.forMatch
    exact if_neg (show ¬ ((Sre.header code.toArray).1 != 0 && decide (0 ≤ l.length) && decide (l.length - 0 < (Sre.header code.toArray).1)) = true by simp; omega)
  rw [e, e2]
  obtain ⟨m2, r2, R⟩ := h { m0 code l groups 0 pc 0 with wholeText := true } ⟨rfl, rfl, rfl, rfl, rfl, rfl, ⟨rfl, Array.size_replicate, fun i hi => absurd hi (by show ¬ (i : Int) ≤ -1; omega), by show (-1 : Int) ≤ -1; omega, by show (-1 : Int) < (2 * groups : Nat); omega⟩, rfl, rfl⟩ (by show 0 + w ≤ _; omega)
  have st := answer_end R.out R.frames R.ans
  refine ⟨_, r2.trans (RB.step R.out), ?_⟩
  rw [st]
  cases r with
  | none => exact ⟨R.size, rfl⟩
  | some x =>
    obtain ⟨y1, y2⟩ := R.yes x rfl
    exact ⟨R.size, rfl, congrArg Kc.start R.kc, y2, y1⟩
theorem fm_no {code l : List Nat} {groups least pc : Nat} (hh : Sre.header code.toArray = (least, pc)) (hl : l.length < least) : Runs 1 (Sre.forMatch code.toArray l.toArray groups 0 l.length true false) (2 * groups) none := by
  have e1 : (Sre.header code.toArray).1 = least := by rw [hh]
  have e : Sre.forMatch code.toArray l.toArray groups 0 l.length true false = ({ m0 code l groups 0 (Sre.header code.toArray).2 0 with wholeText := true } : M).say false := by
    unfold Sre.forMatch
    exact if_pos (show ((Sre.header code.toArray).1 != 0 && decide (0 ≤ l.length) && decide (l.length - 0 < (Sre.header code.toArray).1)) = true by simp; omega)
  rw [e]
  refine ⟨_, RB.step rfl, ?_⟩
  rw [answer_end (m := ({ m0 code l groups 0 (Sre.header code.toArray).2 0 with wholeText := true } : M).say false) rfl rfl (b := false) rfl]
  exact ⟨Array.size_replicate, rfl⟩
/-! HEADER_JOIN_TOKEN_RE -/
def jtc : List Nat := [14, 4, 0, 1, 4294967295, 24, 16, 1, 4294967295, 13, 11, 9, 0, 67071226, 3355443198, 1476395007, 0, 0, 0, 0, 0, 1, 1]
def tch (c : Nat) : Bool := (48 ≤ c && c ≤ 57) || (65 ≤ c && c ≤ 90) || (97 ≤ c && c ≤ 122) || [33, 35, 36, 37, 38, 39, 42, 43, 45, 46, 94, 95, 96, 124, 126].contains c
theorem jt_bits : ∀ c, c < 256 → (decide (c < 256) && (jtc.toArray.getD (11 + (1 + c / 32)) 0).testBit (c % 32)) = tch c := by decide +kernel
theorem tch_big (c : Nat) (h : 256 ≤ c) : tch c = false := by
  unfold tch
  simp
  omega
theorem jt_bits' (c : Nat) : (decide (c < 256) && (jtc.toArray.getD (11 + (1 + c / 32)) 0).testBit (c % 32)) = tch c := by
  by_cases h : c < 256
  · exact jt_bits c h
  · rw [tch_big c (by omega)]; simp [h]
theorem acc_jt9 : Acc jtc.toArray 9 tch := (acc_in (i := 9) rfl (ins_charset (i := 11) rfl (ins_fail (i := 20) rfl))).congr fun c => by rw [jt_bits']; cases tch c <;> rfl
theorem down_none {tail : Nat → Option Rs} {least : Nat} : ∀ d, (∀ j, j ≤ d → tail (least + j) = none) → down tail least d = none
  | 0, h => h 0 (Nat.le_refl _)
  | d + 1, h => by
    unfold down
    rw [show tail (least + d + 1) = none from h (d + 1) (Nat.le_refl _), down_none d fun j hj => h j (by omega)]; rfl
theorem tw_mem {p : Nat → Bool} : ∀ {l : List Nat} {c : Nat}, c ∈ l.takeWhile p → p c = true
  | [], c, h => by simp at h
  | a :: l, c, h => by
    rw [List.takeWhile_cons] at h
    split at h
    · rename_i hp
      rcases List.mem_cons.mp h with rfl | h
      · exact hp
      · exact tw_mem h
    · cases h
/-- the whole is signs of a token, one at least -/
def tokW (l : List Nat) : Bool := !l.isEmpty && l.all tch
theorem jt_full (l : List Nat) (hz : l.length ≤ 1000000) : Runs (l.length * 2 + 10) (Sre.forMatch jtc.toArray l.toArray 0 0 l.length true false) 0 (if tokW l = true then some (0, ⟨k0 0, l.length⟩) else none) := by
  by_cases hne : l = []
  · subst hne
    exact (fm_no (code := jtc) (l := []) (groups := 0) (least := 1) (pc := 5) rfl (by decide)).le (by omega)
  have hpos : 1 ≤ l.length := by cases l with | nil => exact absurd rfl hne | cons c u => simp
  have S : Sfx (kw jtc l) 0 l := ⟨by show l.length = 0 + _; omega, fun i hi => by show l.toArray.getD (0 + i) 0 = _; rw [Nat.zero_add, getD_arr]⟩
  have hcnt : cnt tch (kw jtc l).text 0 (min 4294967295 ((kw jtc l).lim - 0)) = (l.takeWhile tch).length := cnt_sfx l _ S (by omega)
  have htw : (l.takeWhile tch).length ≤ l.length := (List.takeWhile_prefix tch).length_le
  by_cases h0 : (l.takeWhile tch).length = 0
  · have hf : tokW l = false := by
      cases l with
      | nil => exact absurd rfl hne
      | cons c u =>
        have : tch c = false := by
          cases hc : tch c with
          | false => rfl
          | true => rw [List.takeWhile_cons, hc] at h0; simp at h0
        simp [tokW, this]
    rw [hf, if_neg (by decide)]
    refine Runs.le (fm_go (r := none) (code := jtc) (l := l) (groups := 0) (least := 1) (pc := 5) (a := 1) (w := 0) rfl hpos (by decide) ?_) (by omega)
    exact ex_rep_no (p := tch) (by show _ < jtc.toArray.size; decide) rfl (least := 1) (most := 4294967295) rfl rfl acc_jt9 (by rw [hcnt]; omega)
  · have key : down (fun j => if j = l.length then some (⟨k0 0, l.length⟩ : Rs) else none) 1 ((l.takeWhile tch).length - 1) = if tokW l = true then some ⟨k0 0, l.length⟩ else none := by
      by_cases hall : (l.takeWhile tch).length = l.length
      · have ht : tokW l = true := by
          unfold tokW
          rw [Bool.and_eq_true]
          refine ⟨by cases l with | nil => exact absurd rfl hne | cons c u => rfl, ?_⟩
          have e : l.takeWhile tch = l := (List.takeWhile_prefix tch).eq_of_length hall
          rw [List.all_eq_true]
          intro c hc
          rw [← e] at hc
          exact tw_mem hc
        rw [ht, if_pos rfl, hall]
        cases hd : l.length - 1 with
        | zero => unfold down; rw [if_pos (by omega)]
        | succ d => unfold down; rw [if_pos (by omega)]; rfl
      · have ht : tokW l = false := by
          cases h : tokW l with
          | false => rfl
          | true =>
            unfold tokW at h
            rw [Bool.and_eq_true, List.all_eq_true] at h
            exfalso
            apply hall
            rw [show l.takeWhile tch = l from by
              have := takeWhile_app (p := tch) (u := l) (v := []) h.2 (fun c v e => by cases e)
              simpa using this]
        rw [ht, if_neg (by decide)]
        exact down_none _ fun j hj => if_neg (by omega)
    have hr := fm_go (r := down (fun j => if j = l.length then some (⟨k0 0, l.length⟩ : Rs) else none) 1 ((l.takeWhile tch).length - 1)) (code := jtc) (l := l) (groups := 0) (least := 1) (pc := 5) (a := ((l.takeWhile tch).length - 1 + 1) * 2 + 1) (w := 1) rfl hpos (by decide)
      (ex_rep (a := 1) (w := 0) (d := (l.takeWhile tch).length - 1) (skip := 16) (least := 1) (most := 4294967295) (p := tch) (tail := fun j => if j = l.length then some (⟨k0 0, l.length⟩ : Rs) else none) (by show _ < jtc.toArray.size; decide) rfl rfl rfl rfl acc_jt9 (Nat.zero_le _) (by rw [hcnt]; omega) (fun j hj => by
        by_cases hjl : 1 + j = l.length
        · rw [if_pos hjl]
          have := ex_success (K := kw jtc l) (pc := 5 + 1 + 16) (pos := 0 + 1 + j) (om := true) (inn := none) (L := #[]) (k := k0 (2 * 0)) (by show _ < jtc.toArray.size; decide) rfl (by
            show (true && ((true && (0 + 1 + j != l.length)) || (false && _))) = false
            rw [show (0 + 1 + j != l.length) = false from by rw [bne_eq_false_iff_eq]; omega]; rfl)
          rw [show 0 + 1 + j = l.length by omega] at this ⊢
          exact this
        · rw [if_neg hjl]
          exact ex_success_no (by show _ < jtc.toArray.size; decide) rfl (by
            show (true && ((true && (0 + 1 + j != l.length)) || (false && _))) = true
            rw [show (0 + 1 + j != l.length) = true from by rw [bne_iff_ne]; omega]; rfl)))
    rw [key] at hr
    have e3 : (if tokW l = true then some (⟨k0 0, l.length⟩ : Rs) else none).map (fun x => (0, x)) = if tokW l = true then some (0, ⟨k0 0, l.length⟩) else none := by split <;> rfl
    rw [e3] at hr
    exact hr.le (by omega)
end Mine
namespace Mine
open PySem
open PySem.Sre (M Seen)
theorem ff_none {rs : Nat → Option Rs} : ∀ n p, (∀ j, p ≤ j → j < p + n → rs j = none) → firstFrom rs p n = none
  | 0, _, _ => rfl
  | n + 1, p, h => by unfold firstFrom; rw [h p (Nat.le_refl _) (by omega)]; exact ff_none n (p + 1) fun j h1 h2 => h j (by omega) (by omega)
theorem ff_some {rs : Nat → Option Rs} {s : Nat} {x : Rs} (hx : rs s = some x) : ∀ n p, p ≤ s → s < p + n → (∀ j, p ≤ j → j < s → rs j = none) → firstFrom rs p n = some (s, x)
  | 0, p, h1, h2, _ => by omega
  | n + 1, p, h1, h2, h => by
    unfold firstFrom
    by_cases e : p = s
    · subst e; rw [hx]
    · rw [h p (Nat.le_refl _) (by omega)]
      exact ff_some hx n (p + 1) (by omega) (by omega) fun j h3 h4 => h j (by omega) h4
/-- one start that goes through -/
theorem at_yes {K : Kc} {pc nm s a w : Nat} {m : M} {first : Bool} {x : Rs} (I : Idle m K pc nm) (hw : w + 1 ≤ 16777216) (h : Ex a w (K.at s K.must) pc s first none #[] (k0 nm) (some x)) : Runs (a + 2) (m.attemptAt s first) nm (some (s, x)) := by
  obtain ⟨m2, r2, ho, ha, hsz, hf, hres⟩ := at_go I hw h
  have st := step_resume ho ha hf
  obtain ⟨y0, y1, y2⟩ := hres.1 x rfl
  have e : m2.step = (popd m2 { wait := .nextStart, pc := pc, pos := s, outermost := first } []).say true := st
  have e2 := answer_end (m := (popd m2 { wait := .nextStart, pc := pc, pos := s, outermost := first } []).say true) ho rfl (b := true) rfl
  refine ⟨_, (r2.trans (RB.next ho e (RB.step ho))).le (by omega), ?_⟩
  rw [e2]
  exact ⟨hsz, rfl, y0, y1, y2⟩
/-! HEADER_JOIN_ESCAPE_RE -/
def jec : List Nat := [14, 9, 4, 1, 1, 16, 34, 16, 92, 0, 17, 0, 13, 6, 16, 34, 16, 92, 0, 17, 1, 1]
def esq (c : Nat) : Bool := c == 34 || c == 92
theorem acc_je12 : Acc jec.toArray 12 esq := (acc_in (i := 12) rfl (ins_lit (i := 14) (a := 34) rfl rfl (ins_lit (i := 16) (a := 92) rfl rfl (ins_fail rfl)))).congr fun c => by
  unfold esq; cases c == 34 <;> cases c == 92 <;> rfl
theorem ins_je5 : InS jec.toArray 5 jec.toArray.size true esq := fun c sn => by
  obtain ⟨sn', e⟩ := (ins_lit (i := 5) (a := 34) (fuel := 21) (yes := true) (code := jec.toArray) rfl rfl (ins_lit (i := 7) (a := 92) (fuel := 20) rfl rfl (ins_fail (i := 9) (fuel := 19) rfl))) c sn
  refine ⟨sn', e.trans ?_⟩
  congr 2
  show (if (c == 34) = true then true else if (c == 92) = true then true else !true) = esq c
  unfold esq; cases c == 34 <;> cases c == 92 <;> rfl
def fi (p : Nat → Bool) (l : List Nat) : Nat → Nat → Option Nat
  | 0, _ => none
  | f + 1, s => if s ≥ l.length then none else if p (l.getD s 0) = true then some s else fi p l f (s + 1)
theorem adm_eq {m : M} {l : List Nat} {p : Nat → Bool} (hc : m.text = l.toArray) (hl : m.lim = l.length) (hin : InS m.code 5 m.code.size true p) : ∀ f s sn, ∃ sn', M.admitted m f s sn = .ok (fi p l f s, sn')
  | 0, s, sn => ⟨sn, rfl⟩
  | f + 1, s, sn => by
    unfold M.admitted fi
    rw [hl]
    by_cases h : s ≥ l.length
    · rw [if_pos h, if_pos h]; exact ⟨sn, rfl⟩
    · rw [if_neg h, if_neg h, hc, getD_arr]
      obtain ⟨sn', e⟩ := hin (l.getD s 0) sn
      rw [e]
      cases hp : p (l.getD s 0) with
      | true => exact ⟨sn', rfl⟩
      | false =>
        rw [if_neg (by decide)]
        exact adm_eq hc hl hin f (s + 1) sn'
theorem fi_none {p : Nat → Bool} {l : List Nat} : ∀ f s, l.length < s + f → fi p l f s = none → ∀ j, s ≤ j → j < l.length → p (l.getD j 0) = false
  | 0, s, hf, _, j, h1, h2 => by omega
  | f + 1, s, hf, h, j, h1, h2 => by
    unfold fi at h
    rw [if_neg (by omega)] at h
    split at h
    · cases h
    · rename_i hp
      by_cases e : s = j
      · subst e; exact Bool.eq_false_iff.mpr hp
      · exact fi_none f (s + 1) (by omega) h j (by omega) h2
theorem fi_some {p : Nat → Bool} {l : List Nat} {r : Nat} : ∀ f s, fi p l f s = some r → s ≤ r ∧ r < l.length ∧ p (l.getD r 0) = true ∧ ∀ j, s ≤ j → j < r → p (l.getD j 0) = false
  | 0, s, h => by cases h
  | f + 1, s, h => by
    unfold fi at h
    split at h
    · cases h
    · rename_i hl
      split at h
      · rename_i hp
        cases h
        exact ⟨Nat.le_refl _, by omega, hp, fun j h1 h2 => by omega⟩
      · rename_i hp
        obtain ⟨h1, h2, h3, h4⟩ := fi_some f (s + 1) h
        refine ⟨by omega, h2, h3, fun j h5 h6 => ?_⟩
        by_cases e : s = j
        · subst e; exact Bool.eq_false_iff.mpr hp
        · exact h4 j (by omega) h6
def jeN (l : List Nat) (p : Nat) : Option (Nat × Rs) := (fi esq l (l.length + 1 - p) p).map fun s => (s, tokX s (s + 1))
theorem je_search (l : List Nat) (p : Nat) (hp : p ≤ l.length) : Runs 20 (Sre.forSearch jec.toArray l.toArray 1 p l.length false) 2 (jeN l p) := by
  by_cases hz : l.length - p < 1
  · have e : jeN l p = none := by
      unfold jeN
      have : l.length + 1 - p = 1 := by omega
      rw [this]
      unfold fi
      rw [if_pos (by omega)]; rfl
    rw [e]
    exact (fs_no (code := jec) (l := l) (groups := 1) (p := p) (least := 1) (pc := 10) rfl hz).le (by decide)
  · rw [fs_go (code := jec) (l := l) (groups := 1) (p := p) (least := 1) (pc := 10) (ls := l.length) rfl (by decide) hp (by omega) rfl]
    unfold M.attemptFrom
    rw [show (m0 jec l 1 p 10 l.length).hasFirstSet = true from rfl]
    show Runs 20 (match M.admitted (m0 jec l 1 p 10 l.length) (l.length + 1 - p) p (m0 jec l 1 p 10 l.length).seen with | .ok (some s, seen) => _ | .ok (none, seen) => _ | .error why => _) 2 (jeN l p)
    obtain ⟨sn', e⟩ := adm_eq (m := m0 jec l 1 p 10 l.length) (l := l) (p := esq) rfl rfl ins_je5 (l.length + 1 - p) p (m0 jec l 1 p 10 l.length).seen
    rw [e]
    unfold jeN
    cases hf : fi esq l (l.length + 1 - p) p with
    | none =>
      dsimp only
      refine ⟨_, RB.le (RB.step rfl) (by decide), ?_⟩
      rw [answer_end (m := M.say { m0 jec l 1 p 10 l.length with seen := sn' } false) rfl rfl (b := false) rfl]
      exact ⟨Array.size_replicate, rfl⟩
    | some s =>
      dsimp only
      obtain ⟨h1, h2, h3, h4⟩ := fi_some _ _ hf
      have S := sfx0 (code := jec) (l := l) (ls := l.length) (s := s) (b := false) s (by omega)
      rw [List.drop_eq_getElem_cons h2] at S
      have hg : l.getD s 0 = l[s] := by rw [List.getD_eq_getElem?_getD, List.getElem?_eq_getElem h2]; rfl
      refine Runs.le (at_yes (K := kc jec l l.length) (pc := 10) (nm := 2) (a := 4) (w := 0) (m := { m0 jec l 1 p 10 l.length with mustAdvance := false, seen := sn' }) ⟨rfl, rfl, rfl, rfl, rfl, rfl, rfl, rfl, rfl, rfl, rfl, rfl, rfl, Array.size_replicate⟩ (by decide) ?_) (by decide)
      refine ex_mark (a := 3) (i := 0) (by show _ < jec.toArray.size; decide) rfl rfl (by decide) (by decide) ?_
      refine ex_item (a := 2) (op := 13) (wd := 7) (p := esq) (by show _ < jec.toArray.size; decide) rfl rfl rfl acc_je12 S.lt (by
        show esq (((kc jec l l.length).at s false).text.getD s 0) = true
        rw [S.hd, ← hg]; exact h3) ?_
      refine ex_mark (a := 1) (i := 1) (by show _ < jec.toArray.size; decide) rfl rfl (by show 1 < 2; decide) (by show max (-1 : Int) 0 < 1; decide) ?_
      exact ex_success (by show _ < jec.toArray.size; decide) rfl (by rfl)
/-- a sign, escaped -/
def esc1 (c : Nat) : List Nat := if esq c = true then [92, c] else [c]
def escL (l : List Nat) : List Nat := l.flatMap esc1
theorem escL_plain {l : List Nat} (h : ∀ c ∈ l, esq c = false) : escL l = l := by
  induction l with
  | nil => rfl
  | cons c l ih =>
    unfold escL
    rw [List.flatMap_cons]
    have : esc1 c = [c] := by unfold esc1; rw [h c (.head _)]; rfl
    rw [this, show l.flatMap esc1 = l from ih fun c' h' => h c' (.tail _ h')]; rfl
theorem drop_mem {l : List Nat} {p c : Nat} (h : c ∈ l.drop p) : ∃ j, p ≤ j ∧ j < l.length ∧ l.getD j 0 = c := by
  obtain ⟨i, hi, e⟩ := List.getElem_of_mem h
  have hl : p + i < l.length := by rw [List.length_drop] at hi; omega
  refine ⟨p + i, by omega, hl, ?_⟩
  rw [List.getD_eq_getElem?_getD, List.getElem?_eq_getElem hl]
  rw [List.getElem_drop] at e
  exact e
theorem mid_mem {l : List Nat} {p s c : Nat} (h : c ∈ (l.take s).drop p) : ∃ j, p ≤ j ∧ j < s ∧ j < l.length ∧ l.getD j 0 = c := by
  obtain ⟨j, h1, h2, h3⟩ := drop_mem h
  rw [List.length_take] at h2
  refine ⟨j, h1, by omega, by omega, ?_⟩
  rw [List.getD_eq_getElem?_getD, List.getElem?_take_of_lt (by omega)] at h3
  rw [List.getD_eq_getElem?_getD]; exact h3
theorem drop_split {l : List Nat} {p s : Nat} (h1 : p ≤ s) (h2 : s < l.length) : l.drop p = (l.take s).drop p ++ l.getD s 0 :: l.drop (s + 1) := by
  have e1 : l.drop p = (l.take s).drop p ++ l.drop s := by
    conv => lhs; rw [← List.take_append_drop s l]
    rw [List.drop_append_of_le_length (by rw [List.length_take]; omega)]
  rw [e1, List.drop_eq_getElem_cons h2]
  congr 2
  rw [List.getD_eq_getElem?_getD, List.getElem?_eq_getElem h2]; rfl
theorem je_sub (l : List Nat) : ∀ n p, l.length - p = n → p ≤ l.length → SubTo l (jeN l) (fun st _ => [92, l.getD st 0]) p (escL (l.drop p)) := by
  intro n
  induction n using Nat.strongRecOn with
  | ind n ih =>
    intro p hn hp
    cases hf : fi esq l (l.length + 1 - p) p with
    | none =>
      have h0 : jeN l p = none := by unfold jeN; rw [hf]; rfl
      have hpl : ∀ c ∈ l.drop p, esq c = false := fun c hc => by
        obtain ⟨j, h1, h2, h3⟩ := drop_mem hc
        rw [← h3]
        exact fi_none _ _ (by omega) hf j h1 h2
      rw [escL_plain hpl]
      exact .stop h0
    | some s =>
      obtain ⟨h1, h2, h3, h4⟩ := fi_some _ _ hf
      have h0 : jeN l p = some (s, tokX s (s + 1)) := by unfold jeN; rw [hf]; rfl
      have hpl : ∀ c ∈ (l.take s).drop p, esq c = false := fun c hc => by
        obtain ⟨j, h5, h6, h7, h8⟩ := mid_mem hc
        rw [← h8]
        exact h4 j h5 h6
      have e : escL (l.drop p) = (l.take s).drop p ++ [92, l.getD s 0] ++ escL (l.drop (s + 1)) := by
        conv => lhs; rw [drop_split h1 h2]
        unfold escL
        rw [List.flatMap_append, List.flatMap_cons, show ((l.take s).drop p).flatMap esc1 = (l.take s).drop p from escL_plain hpl]
        have : esc1 (l.getD s 0) = [92, l.getD s 0] := by unfold esc1; rw [if_pos h3]
        rw [this]; simp
      rw [e]
      exact .step h0 (ih (l.length - (s + 1)) (by omega) (s + 1) rfl (by omega))
end Mine
namespace Mine
open PySem
open PySem.Sre (M Seen)
/-! HEADER_ESCAPE_RE -/
def ecc : List Nat := [14, 8, 1, 2, 2, 1, 1, 92, 0, 16, 92, 17, 0, 2, 17, 1, 1]
theorem acc_ec9 : Acc ecc.toArray 9 (fun c => c == 92) := acc_lit rfl rfl
theorem acc_ec13 : Acc ecc.toArray 13 (fun c => c != 10) := acc_any rfl
theorem ec_fs (m : M) (h : m.code = ecc.toArray) : m.hasFirstSet = false := by unfold M.hasFirstSet; rw [h]; rfl
def rsU (l : List Nat) (s : Nat) : Option Rs := if l.getD s 0 = 92 ∧ s + 1 < l.length ∧ l.getD (s + 1) 0 ≠ 10 then some (tokX (s + 1) (s + 2)) else none
theorem ec_at (l : List Nat) (s : Nat) (hs : s ≤ l.length) (b first : Bool) (hb : b = false) : Ex 5 0 ((kc ecc l l.length).at s b) 9 s first none #[] (k0 2) (rsU l s) := by
  subst hb
  unfold rsU
  by_cases h1 : s < l.length
  rotate_left
  · rw [if_neg (by omega)]
    exact Ex.le (ex_item_no (op := 16) (p := fun c => c == 92) (by show _ < ecc.toArray.size; decide) rfl rfl acc_ec9 (fun h => absurd h (by show ¬ s < l.length; omega))) (by decide) (Nat.le_refl _)
  have htx : ∀ j, ((kc ecc l l.length).at s false).text.getD j 0 = l.getD j 0 := fun j => getD_arr l j 0
  by_cases h2 : l.getD s 0 = 92
  rotate_left
  · rw [if_neg (fun h => h2 h.1)]
    exact Ex.le (ex_item_no (op := 16) (p := fun c => c == 92) (by show _ < ecc.toArray.size; decide) rfl rfl acc_ec9 (fun h => by rw [htx]; exact beq_eq_false_iff_ne.mpr h2)) (by decide) (Nat.le_refl _)
  refine Ex.le (ex_item (a := 4) (op := 16) (wd := 2) (p := fun c => c == 92) (by show _ < ecc.toArray.size; decide) rfl rfl rfl acc_ec9 h1 (by rw [htx, h2]; rfl) ?_) (by decide) (Nat.le_refl _)
  refine ex_mark (a := 3) (i := 0) (by show _ < ecc.toArray.size; decide) rfl rfl (by decide) (by decide) ?_
  by_cases h3 : s + 1 < l.length ∧ l.getD (s + 1) 0 ≠ 10
  · rw [if_pos ⟨h2, h3⟩]
    refine ex_item (a := 2) (op := 2) (wd := 1) (p := fun c => c != 10) (by show _ < ecc.toArray.size; decide) rfl rfl rfl acc_ec13 h3.1 (by rw [htx, bne_iff_ne]; exact h3.2) ?_
    refine ex_mark (a := 1) (i := 1) (by show _ < ecc.toArray.size; decide) rfl rfl (by show 1 < 2; decide) (by show max (-1 : Int) 0 < 1; decide) ?_
    exact ex_success (by show _ < ecc.toArray.size; decide) rfl (by cases first <;> rfl)
  · rw [if_neg (fun h => h3 h.2)]
    exact Ex.le (ex_item_no (op := 2) (p := fun c => c != 10) (by show _ < ecc.toArray.size; decide) rfl rfl acc_ec13 (fun h => by
      have h' : s + 1 < l.length := h
      rw [htx, bne_eq_false_iff_eq]
      exact Decidable.byContradiction fun e => h3 ⟨h', e⟩)) (by decide) (Nat.le_refl _)
def ecN (l : List Nat) (p : Nat) : Option (Nat × Rs) := if l.length - p < 2 then none else firstFrom (rsU l) p (l.length + 1 - p)
theorem ec_search (l : List Nat) (p : Nat) (hp : p ≤ l.length) : Runs ((l.length + 1) * 6 + 1) (Sre.forSearch ecc.toArray l.toArray 1 p l.length false) 2 (ecN l p) := by
  unfold ecN
  by_cases hz : l.length - p < 2
  · rw [if_pos hz]
    exact (fs_no (code := ecc) (l := l) (groups := 1) (p := p) (least := 2) (pc := 9) rfl hz).le (by omega)
  · rw [if_neg hz]
    rw [fs_go (code := ecc) (l := l) (groups := 1) (p := p) (least := 2) (pc := 9) (ls := l.length) rfl (by decide) hp (by omega) rfl]
    have hs := search_go (K := kc ecc l l.length) (pc := 9) (nm := 2 * 1) (a := 5) (w := 0) (rs := rsU l) ec_fs (by decide) (l.length + 1 - p) p true _ (idle0 (p := p)) (by show l.length + 1 = _; omega) (by omega)
      (ec_at l p hp _ _ rfl) (fun s' h1 h2 => ec_at l s' h2 _ _ rfl)
    exact hs.le (Nat.succ_le_succ (Nat.mul_le_mul (by omega) (by omega)))
theorem esq92 {c : Nat} (h : esq c = false) : c ≠ 92 ∧ c ≠ 34 := by
  unfold esq at h
  simp at h
  omega
theorem esq10 {c : Nat} (h : esq c = true) : c ≠ 10 := by
  unfold esq at h
  simp at h
  omega
theorem getD_drop (l : List Nat) (p i : Nat) : (l.drop p).getD i 0 = l.getD (p + i) 0 := by rw [List.getD_eq_getElem?_getD, List.getElem?_drop, ← List.getD_eq_getElem?_getD]
theorem split_first (p : Nat → Bool) : ∀ v : List Nat, (∀ c ∈ v, p c = false) ∨ ∃ a c b, v = a ++ c :: b ∧ (∀ x ∈ a, p x = false) ∧ p c = true
  | [] => .inl (by simp)
  | x :: v => by
    cases hx : p x with
    | true => exact .inr ⟨[], x, v, rfl, by simp, hx⟩
    | false =>
      rcases split_first p v with h | ⟨a, c, b, rfl, h1, h2⟩
      · refine .inl fun c hc => ?_
        rcases List.mem_cons.mp hc with rfl | hc
        · exact hx
        · exact h c hc
      · refine .inr ⟨x :: a, c, b, rfl, fun y hy => ?_, h2⟩
        rcases List.mem_cons.mp hy with rfl | hy
        · exact hx
        · exact h1 y hy
theorem ec_sub (l : List Nat) : ∀ n (v : List Nat) p, v.length = n → p ≤ l.length → l.drop p = escL v → SubTo l (ecN l) (fun st _ => [l.getD (st + 1) 0]) p v := by
  intro n
  induction n using Nat.strongRecOn with
  | ind n ih =>
    intro v p hn hp hd
    rcases split_first esq v with h | ⟨a, c, b, rfl, h1, h2⟩
    · rw [escL_plain h] at hd
      have : ecN l p = none := by
        unfold ecN
        split
        · rfl
        · refine ff_none _ _ fun j h3 h4 => ?_
          unfold rsU
          rw [if_neg]
          intro h5
          have hj : l.getD j 0 ∈ v := by
            rw [← hd, show j = p + (j - p) by omega, ← getD_drop]
            have : j - p < (l.drop p).length := by rw [List.length_drop]; omega
            rw [List.getD_eq_getElem?_getD, List.getElem?_eq_getElem this]
            exact List.getElem_mem _
          exact (esq92 (h _ hj)).1 h5.1
      rw [← hd]
      exact .stop this
    · have e1 : escL (a ++ c :: b) = a ++ 92 :: c :: escL b := by
        unfold escL
        rw [List.flatMap_append, List.flatMap_cons, show a.flatMap esc1 = a from escL_plain h1]
        have : esc1 c = [92, c] := by unfold esc1; rw [if_pos h2]
        rw [this]; simp
      rw [e1] at hd
      have hlen : l.length - p = a.length + (escL b).length + 2 := by
        have := congrArg List.length hd
        simp at this
        omega
      have g0 : ∀ i, l.getD (p + i) 0 = (a ++ 92 :: c :: escL b).getD i 0 := fun i => by rw [← hd, getD_drop]
      have g1 : l.getD (p + a.length) 0 = 92 := by rw [g0]; simp [List.getD_eq_getElem?_getD]
      have g2 : l.getD (p + a.length + 1) 0 = c := by rw [show p + a.length + 1 = p + (a.length + 1) by omega, g0]; simp [List.getD_eq_getElem?_getD]
      have hN : ecN l p = some (p + a.length, tokX (p + a.length + 1) (p + a.length + 2)) := by
        unfold ecN
        rw [if_neg (by omega)]
        refine ff_some (s := p + a.length) ?_ _ _ (by omega) (by omega) fun j h3 h4 => ?_
        · unfold rsU
          rw [if_pos ⟨g1, by omega, by rw [g2]; exact esq10 h2⟩]
        · unfold rsU
          rw [if_neg]
          intro h5
          have hj : l.getD j 0 ∈ a := by
            rw [show j = p + (j - p) by omega, g0, List.getD_eq_getElem?_getD, List.getElem?_append_left (by omega)]
            have : j - p < a.length := by omega
            rw [List.getElem?_eq_getElem this]
            exact List.getElem_mem _
          exact (esq92 (h1 _ hj)).1 h5.1
      have hmid : (l.take (p + a.length)).drop p = a := by
        rw [List.drop_take, hd]
        simp
      have hrest : l.drop (p + a.length + 2) = escL b := by
        rw [show p + a.length + 2 = p + (a.length + 2) by omega, ← List.drop_drop, hd]
        simp
      have := SubTo.step (l := l) (rep := fun st _ => [l.getD (st + 1) 0]) hN (T := b) (ih b.length (by rw [← hn]; simp; omega) b (p + a.length + 2) rfl (by omega) hrest)
      rw [hmid] at this
      rw [g2] at this
      simpa using this
end Mine
namespace Mine
open PySem PySem.W PySem.Spec PySem.Calls PyProof.Rows
open Builtin Builtin.Str in
theorem meets_q (t u : Tok) (z : PySem.Str) (hz : z.length ≤ 1000000) : Meets («str.__mod__» ⟨[.str ⟨#[34, 37, 115, 34]⟩ t, .str z u], []⟩) (fun _ R s => ∀ t' k, R (.ok (.ret (.str (PySem.Str.ofString "\"" ++ z ++ PySem.Str.ofString "\"") t'))) { s with toks := k }) := by
  kpc_run_s
section
variable {C : Cx} {E : Value → Shared → Prop} {ρ : Loc} {σ : Sto} {Q : AV → Loc → Sto → Prop}
theorem t_fmtq {l : List Nat} (hl : l.length ≤ 1000000) (h : Q (.str (tx (34 :: (l ++ [34])))) ρ σ) : Op2 C E .Mod (.str (tx [34, 37, 115, 34])) (.str (tx l)) Q ρ σ := by
  rintro _ _ ⟨t, rfl⟩ ⟨u, rfl⟩ s hs
  refine KPc.mod_str (X' := ⟨#[34, 37, 115, 34]⟩) (T := fun z => PySem.Str.ofString "\"" ++ z ++ PySem.Str.ofString "\"") rfl (by rw [tx_len]; exact hl) (fun z hz => meets_q t u z hz) fun t' k => ⟨.str _, ρ, σ, ⟨t', rfl⟩, hs.toks _, ?_⟩
  rw [show PySem.Str.ofString "\"" = tx [34] by decide, tx_app, tx_app]
  simpa using h
end
end Mine
namespace Mine
open PySem PySem.W PySem.Spec PySem.Calls PyProof.Rows
theorem slot_md_get : Slot "member_descriptor" "__get__" "member_descriptor.__get__" :=
  .of (owner := "member_descriptor") (n := "__get__") (by rw [typeLookup_type, builtinLookup_eq_fast]; kernel_rfl) (by decide +kernel) (by decide +kernel) (by decide +kernel)
    (by first | exact .inl (by decide +kernel) | exact .inr (by decide +kernel)) (by rw [isSubtype_type]; kernel_rfl)
theorem slot_md_set : Slot "member_descriptor" "__set__" "member_descriptor.__set__" :=
  .of (owner := "member_descriptor") (n := "__set__") (by rw [typeLookup_type, builtinLookup_eq_fast]; kernel_rfl) (by decide +kernel) (by decide +kernel) (by decide +kernel)
    (by first | exact .inl (by decide +kernel) | exact .inr (by decide +kernel)) (by rw [isSubtype_type]; kernel_rfl)
theorem entry_md_get : entryFor table "member_descriptor.__get__" = some Builtin.«member_descriptor.__get__» := entryFor_of_tree (by kernel_rfl)
theorem args_md_get (a b c : Value) : argsOk "member_descriptor.__get__" ⟨[a, b, c], []⟩ := by unfold argsOk; kernel_rfl
theorem entry_ms : entryFor table "re.Match.string" = some Builtin.«re.Match.string» := entryFor_of_tree (by kernel_rfl)
theorem lk_ms : typeLookup (.type "re.Match") "string" = pure (some (.builtin "re.Match.string")) := by rw [typeLookup_type, builtinLookup_eq_fast]; kernel_rfl
theorem ty_ms : typeOf (.builtin "re.Match.string") = pure (.type "member_descriptor") := by show builtinType _ = _; rw [builtinType_eq_fast]; kernel_rfl
theorem owner_ms : (".".intercalate ("re.Match.string".cutAt '.').dropLast) = "re.Match" := by
  have e0 : "re.Match.string".cutAt '.' = ["re", "Match", "string"] := by first | rfl | decide +kernel
  rw [e0]; decide +kernel
theorem sub_ms_owner : isSubtype (.type "re.Match") (.type (".".intercalate ("re.Match.string".cutAt '.').dropLast)) = pure true := by
  rw [owner_ms, isSubtype_type]; kernel_rfl
theorem slot_mga : Slot "re.Match" "__getattribute__" "object.__getattribute__" :=
  .of (owner := "object") (n := "__getattribute__") (by rw [typeLookup_type, builtinLookup_eq_fast]; kernel_rfl) (by decide +kernel) (by decide +kernel) (by decide +kernel)
    (by first | exact .inl (by decide +kernel) | exact .inr (by decide +kernel)) (by rw [isSubtype_type]; kernel_rfl)
theorem entry_oga : entryFor table "object.__getattribute__" = some Builtin.«object.__getattribute__» := entryFor_of_tree (by kernel_rfl)
theorem args_oga (a b : Value) : argsOk "object.__getattribute__" ⟨[a, b], []⟩ := by unfold argsOk; kernel_rfl
section
variable {prog : Program} {w : World} {A : Around} {E : Value → Shared → Prop} {h : Heap} {g : Array GenState} {d : Drawn} {t : Nat} {os : OsState} {a : Addr} {v0 v1 v2 v3 v4 v5 : Value}
theorem ms_get {R : Result → Shared → Prop} (hx : h.get? a = some { cls := .type "re.Match", data := .fields #[v0, v1, v2, v3, v4, v5] }) (hq : R (.ok (.ret v0)) ⟨h, g, d, t, os⟩) :
    codeAny (model prog w) A (.call (.builtin "member_descriptor.__get__") ⟨[.builtin "re.Match.string", .ref a, .type "re.Match"], []⟩) R ⟨h, g, d, t, os⟩ := by
  have hT : (⟨h, g, d, t, os⟩ : Shared).TypeIs (.ref a) "re.Match" := ⟨_, hx, rfl⟩
  have hT5 : (⟨h, g, d, t, os⟩ : Shared).TypeIs (.builtin "re.Match.string") "member_descriptor" := ty_ms
  have f8 := sub_ms_owner
  refine codeAny_call_builtin slot_md_get.plain entry_md_get (slot_md_get.check _ _ _ _ _ _ _ _ hT5 (args_md_get _ _ _) ?_)
  repeat (any_goals (first | assumption | wp_step))
  refine ⟨Code.quiet_builtin _ (by decide +kernel), codeAny_builtin entry_ms ?_⟩
  unfold Builtin.«re.Match.string»
  exact wpAny_bind (wpAny_field hx rfl rfl (wpAny_pure hq))
theorem ms_entry {tk : Tok} {Q : Fin → Shared → Prop} (hx : h.get? a = some { cls := .type "re.Match", data := .fields #[v0, v1, v2, v3, v4, v5] }) (hq : Q (.done (.ret v0)) ⟨h, g, d, t, os⟩) :
    wpAny (model prog w) A (Builtin.«object.__getattribute__» ⟨[.ref a, .str "string" tk], []⟩) Q E ⟨h, g, d, t, os⟩ := by
  have hT : (⟨h, g, d, t, os⟩ : Shared).TypeIs (.ref a) "re.Match" := ⟨_, hx, rfl⟩
  have hT5 : (⟨h, g, d, t, os⟩ : Shared).TypeIs (.builtin "re.Match.string") "member_descriptor" := ty_ms
  have f4 := lk_ms
  have f5 := ty_ms
  have f6 := slot_md_get.lookup
  have f7 := slot_md_set.lookup
  repeat (any_goals (first | assumption | wp_step))
  refine ms_get hx ?_
  repeat (any_goals (first | assumption | wp_step))
theorem ms_call {tk : Tok} {R : Result → Shared → Prop} (hx : h.get? a = some { cls := .type "re.Match", data := .fields #[v0, v1, v2, v3, v4, v5] }) (hq : R (.ok (.ret v0)) ⟨h, g, d, t, os⟩) :
    codeAny (model prog w) A (.call (.builtin "object.__getattribute__") ⟨[.ref a, .str "string" tk], []⟩) R ⟨h, g, d, t, os⟩ :=
  codeAny_call_builtin slot_mga.plain entry_oga (slot_mga.check _ _ _ _ _ _ _ _ (show (⟨h, g, d, t, os⟩ : Shared).TypeIs (.ref a) "re.Match" from ⟨_, hx, rfl⟩) (args_oga _ _) (ms_entry hx hq))
theorem ms_by {tk : Tok} {b1 b2 : Bool} {x0 : Str} {t0 : Tok} {Q : Value → Shared → Prop} (hx : h.get? a = some { cls := .type "re.Match", data := .fields #[.str x0 t0, v1, v2, v3, v4, v5] }) (hq : Q (.str x0 t0) ⟨h, g, d, t, os⟩) : wpAny (model prog w) A (getAttrBy (.ref a) (.str "string" tk) b1 b2) Q E ⟨h, g, d, t, os⟩ := by
  have hT : (⟨h, g, d, t, os⟩ : Shared).TypeIs (.ref a) "re.Match" := ⟨_, hx, rfl⟩
  have f2 := slot_mga.lookup
  have f3 := slot_mga.bind (.ref a)
  repeat (any_goals (first | assumption | wp_step))
  rw [show (b2 && onTheHeap (Value.builtin "object.__getattribute__")) = false from by cases b2 <;> rfl, if_neg (by decide)]
  repeat (any_goals (first | assumption | wp_step))
  refine ms_call hx ?_
  repeat (any_goals (first | assumption | wp_step))
end
section
variable {C : Cx} {E : Value → Shared → Prop} {ρ : Loc} {σ : Sto} {Q : AV → Loc → Sto → Prop}
/-- a match's text -/
theorem aw_mstring {env : Env} {n : Str} {np pos : Pos} (h : AW RV C E (eval (.Name n np) env) (fun o ρ₁ σ₁ => ∃ ma ta l, o = .ref ma ∧ (ma, AO.pred (MObj l ta)) ∈ σ₁ ∧ Q (.str (tx l)) ρ₁ σ₁) ρ σ) :
    AW RV C E (eval (.Attribute (.Name n np) (Str.ofString "string") pos) env) Q ρ σ := by
  intro s hs
  refine Attribute_name (h.lift1 hs fun v b ρ₁ σ₁ s₁ rv hs₁ ⟨ma, ta, l, e, hm, hq⟩ => ?_)
  subst e
  cases rv
  obtain ⟨o, e, _, _, t, v1, v2, v3, v4, rfl⟩ := hs₁.led _ hm
  unfold getAttr
  refine wpAny_bind (wpAny_mkText ?_)
  exact ms_by e ⟨.str (tx l), ρ₁, σ₁, ⟨_, rfl⟩, hs₁.toks _, hq⟩
end
end Mine
namespace Mine
open PySem PySem.W PySem.Spec PySem.Calls PyProof.Rows
open PySem.Builtin.Re
theorem lstrip_id {l : List Nat} (h : ∀ c v, l = c :: v → sp c = false) : Txt.lstrip (tx l) = tx l := by
  have e : (l.takeWhile Unicode.isSpace).length = 0 := by
    cases l with
    | nil => rfl
    | cons c v => rw [List.takeWhile_cons, show Unicode.isSpace c = false from h c v rfl]; rfl
  unfold Txt.lstrip Txt.stripBy
  rw [if_pos]
  unfold stripSame stripLo stripHi
  simp [tx_cps, e]
theorem rstrip_id {l : List Nat} (h : ∀ c ∈ l, sp c = false) : Txt.rstrip (tx l) = tx l := by
  have e : (l.reverse.takeWhile Unicode.isSpace) = [] := by
    cases hr : l.reverse with
    | nil => rfl
    | cons c v =>
      have : c ∈ l := by
        have : c ∈ l.reverse := by rw [hr]; exact .head _
        simpa using this
      rw [List.takeWhile_cons, show Unicode.isSpace c = false from h c this]; rfl
  unfold Txt.rstrip Txt.stripBy
  rw [if_pos]
  unfold stripSame stripLo stripHi
  simp [tx_cps, e]
section
variable {C : Cx} {E : Value → Shared → Prop} {ρ : Loc} {σ : Sto} {Q : AV → Loc → Sto → Prop} {env : Env} {pos : Pos} {QF : AF → Loc → Sto → Prop}
theorem t_lstrip {l : List Nat} (hl : l.length ≤ sizeLine) (hh : ∀ c v, l = c :: v → sp c = false) (h : Q (.str (tx l)) ρ σ) : ACall C E (.builtin "str.lstrip") [.str (tx l)] Q ρ σ := by
  intro vs hv s hs
  obtain ⟨_, rfl, t, rfl⟩ := RVs.one' (as := []) hv
  refine SC.lstrip (fun t' k => ?_) (by rw [tx_len]; exact hl)
  rw [lstrip_id hh]
  exact ⟨.str _, ρ, σ, ⟨_, rfl⟩, hs.toks _, h⟩
theorem t_rstrip {l : List Nat} (hl : l.length ≤ sizeLine) (hh : ∀ c ∈ l, sp c = false) (h : Q (.str (tx l)) ρ σ) : ACall C E (.builtin "str.rstrip") [.str (tx l)] Q ρ σ := by
  intro vs hv s hs
  obtain ⟨_, rfl, t, rfl⟩ := RVs.one' (as := []) hv
  refine SC.rstrip (fun t' k => ?_) (by rw [tx_len]; exact hl)
  rw [rstrip_id hh]
  exact ⟨.str _, ρ, σ, ⟨_, rfl⟩, hs.toks _, h⟩
theorem m_lstrip {x : Str} {pl : Sem Bool} {P : Value → List AV → Loc → Sto → Prop} (h : P (.builtin "str.lstrip") [.str x] ρ σ) : AMeth C E (.str x) (Str.ofString "lstrip") pl P ρ σ := by
  rintro _ ⟨t, rfl⟩ s hs
  exact GM.lstrip ⟨[.str x], _, _, .one ⟨_, rfl⟩, hs, h⟩
theorem m_rstrip {x : Str} {pl : Sem Bool} {P : Value → List AV → Loc → Sto → Prop} (h : P (.builtin "str.rstrip") [.str x] ρ σ) : AMeth C E (.str x) (Str.ofString "rstrip") pl P ρ σ := by
  rintro _ ⟨t, rfl⟩ s hs
  exact GM.rstrip ⟨[.str x], _, _, .one ⟨_, rfl⟩, hs, h⟩
/-- a test that holds -/
def AHold (b : Bool) (P : Prop) : Prop := b = true ∧ P
theorem ex_assert {test : Expr} {msg : Option Expr} (h : AW (Eq (α := Bool)) C E (isTrue test env (eval test env)) (fun b ρ₁ σ₁ => AHold b (QF .next ρ₁ σ₁)) ρ σ) : AW RF C E (exec (.Assert test msg pos) env) QF ρ σ :=
  fun _ hs => wpAny_Assert_holds (h.lift1 hs fun b b' ρ₁ σ₁ s₁ e hs₁ h₁ => by
    subst e
    exact ⟨h₁.1, .next, ρ₁, σ₁, rfl, hs₁, h₁.2⟩)
theorem b_isi_list_str {a : Addr} {xs : List AV} (hm : (a, AO.list xs) ∈ σ) (h : Q (.bool false) ρ σ) : ACall C E (.builtin "isinstance") [.ref a, .val (.type "str")] Q ρ σ := by
  intro vs hv s hs
  obtain ⟨v1, v2, rfl, r1, r2⟩ := RVs.two' hv
  cases r1
  cases r2
  obtain ⟨o, e, _, _, ws, n, r, rfl⟩ := hs.led _ hm
  exact IsiPair.list_str e rfl ⟨.bool false, ρ, σ, rfl, hs.toks _, h⟩
/-- two names of a loop over a list of pairs -/
theorem as_tup2 {x y : Str} {px py tp : Pos} {k : Nat} {I a t : Addr} {i : Nat} {u v : AV} {Q : Loc → Sto → Prop} (hh : C.A.handled = none) (hI : (I, literO a i) ∈ σ) (ht : (t, AO.tuple [u, v]) ∈ σ)
    (h : ASt C E env x u (fun ρ₂ σ₂ => ASt C E env y v Q ρ₂ σ₂) ρ σ) : AAs C E env (.Tuple [.Name x px, .Name y py] k tp) I (.ref t) Q ρ σ := by
  intro vv rv s hs
  cases rv
  obtain ⟨o, ho, _, _, hc, hd⟩ := hs.led _ hI
  obtain ⟨vs, r, hT⟩ := hs.isTuple ht
  obtain ⟨vu, vw, rfl, ru, rw'⟩ := RVs.two' r
  refine wpAny_bind (wpAny_letOwnedTupleGo_listiter (l := a) (i := i) ⟨o, ho, hc, hd⟩ ?_)
  refine wpAny_assign_Tuple hh hT rfl rfl fun h' he => ?_
  exact (in_order2 ru rw' h).lift1 (hs.extNew he) fun _ _ ρ₂ σ₂ s₂ _ hs₂ h₃ => ⟨(), ρ₂, σ₂, rfl, hs₂, h₃⟩
/-! re.Match.span(0) -/
theorem slot_re_span : Slot "re.Match" "span" "re.Match.span" :=
  .of (owner := "re.Match") (n := "span") (by rw [typeLookup_type, builtinLookup_eq_fast]; kernel_rfl) (by decide +kernel) (by decide +kernel) (by decide +kernel)
    (by first | exact .inl (by decide +kernel) | exact .inr (by decide +kernel)) (by rw [isSubtype_type]; kernel_rfl)
theorem type_re_span : typeOf (.builtin "re.Match.span") = pure (.type "method_descriptor") := by show builtinType _ = _; rw [builtinType_eq_fast]; kernel_rfl
theorem entry_re_span : entryFor table "re.Match.span" = some Builtin.«re.Match.span» := entryFor_of_tree (by kernel_rfl)
theorem args_re_span (a b : Value) : argsOk "re.Match.span" ⟨[a, b], []⟩ := by rfl
theorem m_span {ma ta : Addr} {l : List Nat} {pl : Sem Bool} {R : Value → List AV → Loc → Sto → Prop} (hm : (ma, AO.pred (MObj l ta)) ∈ σ) (h : R (.builtin "re.Match.span") [.ref ma] ρ σ) : AMeth C E (.ref ma) (Str.ofString "span") pl R ρ σ := by
  intro v rv s hs
  cases rv
  obtain ⟨o, e, _, _, t, _, _, _, _, rfl⟩ := hs.led _ hm
  exact getMethod_builtin ⟨_, e, rfl⟩ plain_Match slot_re_span type_re_span (fun a e' => by cases e'; exact ⟨_, e, rfl⟩) ⟨[.ref ma], _, _, .one rfl, hs, h⟩
theorem b_span0 {ma ta : Addr} {l : List Nat} {sp : List Int} (hm : (ma, AO.pred (MObj l ta)) ∈ σ) (ht : (ta, AO.tuple (sp.map .int)) ∈ σ) (hg : 2 ≤ sp.length)
    (h : ∀ t, Q (.ref t) ρ ((t, .tuple [.int (sp.getD 0 (-1)), .int (sp.getD 1 (-1))]) :: σ)) : ACall C E (.builtin "re.Match.span") [.ref ma, .int 0] Q ρ σ := by
  intro vs hv s hs
  obtain ⟨v1, v2, rfl, rfl, t, rfl⟩ := RVs.two' hv
  obtain ⟨o, e, _, _, t', _, _, _, _, rfl⟩ := hs.led _ hm
  obtain ⟨o2, e2, _, _, us, n2, r2, rfl⟩ := hs.led _ ht
  refine wpAny_call_entry slot_re_span ⟨_, e, rfl⟩ entry_re_span ?_ (args_re_span _ _)
  unfold Builtin.«re.Match.span» reOneGroup
  refine wpAny_bind (wpAny_bind (wpAny_of_eq (a := (.ref ma, [.int 0 t])) rfl ?_))
  dsimp only
  unfold reFound
  refine wpAny_bind (wpAny_bind (wpAny_fieldsOf e rfl ?_))
  refine wpAny_bind (wp_rawItems e2 rfl ?_)
  refine wpAny_pure ?_
  rw [List.map_toArray, rawOf_ints r2]
  refine wpAny_bind (wp_groupNumber (g := 0) (by rw [List.size_toArray]; omega) ?_)
  refine wpAny_pure ?_
  dsimp only
  simp only [getD_arr]
  refine wpAny_bind (wpAny_mkInt (wpAny_bind (wpAny_mkInt ?_)))
  refine wpAny_bind (wpAny_newTuple ?_ (by simp [sizeLine_eq]))
  refine wpAny_pure ⟨_, rfl, .ref _, ρ, _, rfl, hs.push (ao := .tuple [.int (sp.getD 0 (-1)), .int (sp.getD 1 (-1))]) ⟨_, 0, .cons ⟨_, rfl⟩ (.cons ⟨_, rfl⟩ .nil), rfl⟩ rfl _, h _⟩
end
end Mine
namespace Mine
open PySem PySem.W PySem.Spec PySem.Calls PyProof.Rows
open PySem.Builtin.Re
section
variable {C : Cx} {E : Value → Shared → Prop} {ρ : Loc} {σ : Sto} {Q : AV → Loc → Sto → Prop} {s : Shared}
variable {pa pc : Addr} {n : String} {code : List Nat} {groups N : Nat} {l : List Nat} {t tr : Tok} {R : Result → Shared → Prop}
theorem subn_end (G : C.Gl) (P : Pat C.K n pa code groups) (hN : N < 2 ^ 60) (hl : l.length ≤ 500000) {p : Nat} (hp : p ≤ l.length) (hn : Runs N (Sre.forSearch code.toArray l.toArray groups p l.length false) (2 * groups) none)
    (s : Shared) (hs : Rel C ρ ((pc, .list [.str (tx [])]) :: σ) s)
    (hR : ∀ s' v ta, v = .ref ta → Rel C ρ ((ta, .tuple [.str (tx (l.drop p)), .int 1]) :: σ) s' → R (.ok (.ret v)) s') :
    codeAny (model C.prog C.w) C.A (.builtin "re.Pattern.sub.loop" ⟨[.ref pa, .str (tx l) t, .str (tx []) tr, rawInt 0, rawInt 0, rawInt 1, rawInt p, rawInt p, .bool false, .ref pc, .bool true], []⟩) R s := by
  refine codeAny_builtin entry_sub_loop ?_
  rw [Around.under_plainId plain_sub_loop _]
  show wpAny _ _ (reWholeTarget (.ref pa) (.str (tx l) t) >>= _) _ _ s
  refine wpAny_bind (wp_whole G P hs ?_)
  rw [if_pos (by rfl)]
  refine wpAny_bind ?_
  unfold reLiteralCannotBeTurned
  refine wpAny_bind (wpAny_of_eq (a := some (tx [])) rfl ?_)
  rw [if_neg (by decide)]
  refine wpAny_pure ?_
  obtain ⟨m', rb, hsz, hres⟩ := hn
  refine wpAny_bind ?_
  show wpAny _ _ (reRunToEnd (Sre.forSearch code.toArray l.toArray groups ((p : Int).toNat) l.length false)) _ _ s
  rw [Int.toNat_natCast]
  refine wp_run_no rb hN hres ?_
  dsimp only
  have fin : ∀ (acc' : List (List Nat)) (s₁ : Shared), acc' ≠ [] → Rel C ρ ((pc, .list (acc'.map fun x => .str (tx x))) :: σ) s₁ → acc'.flatten = l.drop p → (acc'.map List.length).sum + acc'.length * ([] : List Nat).length ≤ 1000000 →
      wpAny (model C.prog C.w) C.A.in1 (do
        let joiner ← reSlice l.toArray 0 0 0
        let text ← if ((← seqItems? (.ref pc)).getD #[]).isEmpty then pure joiner
          else call (.builtin (if (0 : Nat) == 0 then "str.join" else "bytes.join")) [joiner, .ref pc]
        if true = true then ret (← holding [text] do newTuple [text, ← mkInt (1 : Int)]) else ret text) (fun fin s' => match fin with | .done f => R (.ok f) s' | .again c' => c'.quiet = true ∧ codeAny (model C.prog C.w) C.A c' R s') (fun e s' => R (.error e) s') s₁ := by
    intro acc' s₁ hne hs₁ hfl hz'
    refine wpAny_bind (wp_slice (by omega) fun tj nj => ?_)
    have hs₂ := hs₁.toks nj
    obtain ⟨o, e, n1, n2, vs, m, rv, rfl⟩ := hs₂.led (pc, .list (acc'.map fun x => .str (tx x))) (.head _)
    refine wpAny_bind (wpAny_seqItems e rfl ?_)
    dsimp only [Option.getD_some]
    rw [if_neg (by
      have := rv.length
      rw [List.length_map] at this
      cases acc' with
      | nil => exact absurd rfl hne
      | cons a b =>
        cases vs with
        | nil => simp at this
        | cons c d => simp)]
    have hj : ACall C.in1 (fun e s' => R (.error e) s') (.builtin "str.join") [.str (tx []), .ref pc] (fun v ρ' σ' => v = .str (tx (l.drop p)) ∧ SubS σ σ' ∧ ρ' = ρ) ρ ((pc, .list (acc'.map fun x => .str (tx x))) :: σ) := by
      refine t_join (.head _) hz' ⟨?_, SubS.drop SubS.refl, rfl⟩
      rw [joinL_nil, hfl]
    refine wpAny_bind ?_
    refine (hj [.str (tx []) tj, .ref pc] (.cons ⟨_, rfl⟩ (.cons rfl .nil))).lift1 (C := C.in1) hs₂.in1 fun v b ρ' σ' s₃ rv' hs₃ ⟨eb, hsub, er⟩ => ?_
    subst eb er
    rw [if_pos rfl]
    refine wpAny_bind (wpAny_holding (wpAny_bind (wpAny_mkInt ?_)))
    refine wpAny_newTuple ?_ (by simp [sizeLine_eq])
    have hs₄ := ((hs₃.out1).subS hsub)
    exact wpAny_pure (hR _ _ _ rfl (hs₄.push (ao := .tuple [.str (tx (l.drop p)), .int 1]) ⟨_, 0, .cons rv' (.cons ⟨_, rfl⟩ .nil), rfl⟩ rfl _))
  show wpAny _ _ (if (p : Int).toNat < l.length then _ else _) _ _ s
  rw [Int.toNat_natCast]
  by_cases hlt : p < l.length
  · rw [if_pos hlt]
    refine wpAny_bind (wp_slice (by omega) fun tj nj => ?_)
    refine wpAny_bind (wp_push (a := .str (tx ((l.take l.length).drop p))) (hs.toks nj) ⟨_, rfl⟩ (by simp) fun s₁ hs₁ => ?_)
    rw [List.take_length] at hs₁
    refine fin [[], l.drop p] s₁ (by simp) hs₁ (by simp) ?_
    simp; omega
  · rw [if_neg hlt]
    refine fin [[]] s (by simp) hs ?_ (by simp)
    have : l.drop p = [] := List.drop_of_length_le (by omega)
    rw [this]; rfl
theorem b_subn {e : Nat} {k : Mk} (G : C.Gl) (P : Pat C.K n pa code groups) (hg : groups ≤ 100) (hN : N < 2 ^ 60) (hl : l.length ≤ 500000) (he : 0 < e) (hel : e ≤ l.length)
    (hn1 : Runs N (Sre.forSearch code.toArray l.toArray groups 0 l.length false) (2 * groups) (some (0, ⟨k, e⟩)))
    (hn2 : Runs N (Sre.forSearch code.toArray l.toArray groups e l.length false) (2 * groups) none)
    (h : ∀ ta, Q (.ref ta) ρ ((ta, .tuple [.str (tx (l.drop e)), .int 1]) :: σ)) : ACall C E (.builtin "re.Pattern.subn") [.ref pa, .str (tx []), .str (tx l)] Q ρ σ := by
  intro vs hv s hs
  obtain ⟨v1, v2, v3, rfl, rfl, ⟨tr, rfl⟩, t, rfl⟩ := RVs.three' hv
  obtain ⟨_, _, _, _, _, _, _, h1, _⟩ := pat_at G P hs
  refine wpAny_call (codeAny_call_builtin slot_re_subn.plain entry_re_subn (slot_re_subn.check _ _ _ _ _ _ _ _ ⟨_, h1, rfl⟩ (args_re_subn _ _ _) ?_))
  unfold Builtin.«re.Pattern.subn» reSubstitute
  dsimp only
  rw [named_sub]
  refine wpAny_bind (wpAny_pure ?_)
  dsimp only
  refine wpAny_bind (wpAny_pure ?_)
  refine wpAny_bind (wpAny_specialOf (T := "str") (typeIs_str _ _ _) str_no_call ?_)
  dsimp only [Option.isSome_none]
  refine wpAny_bind (wpAny_of_eq (a := some (tx [])) rfl ?_)
  dsimp only
  refine wpAny_bind (wpAny_pure ?_)
  rw [if_neg (by decide), if_pos (show (!(tx []).cps.contains 92) = true by simp [tx])]
  refine wpAny_bind (wpAny_pure ?_)
  dsimp only
  refine wpAny_bind (wpAny_holding (wp_whole G P hs ?_))
  rw [if_neg (by decide)]
  refine wpAny_bind (wpAny_newObj_type ?_)
  refine wpAny_pure ⟨plainId_quiet plain_sub_loop _, ?_⟩
  have hs₁ := hs.push (ao := .list []) (o := { cls := .type "list", data := .seq ([] : List Value).toArray }) ⟨[], 0, .nil, rfl⟩ rfl s.toks
  -- the first turn
  refine codeAny_builtin entry_sub_loop ?_
  rw [Around.under_plainId plain_sub_loop _]
  show wpAny _ _ (reWholeTarget (.ref pa) (.str (tx l) t) >>= _) _ _ _
  refine wpAny_bind (wp_whole G P hs₁ ?_)
  rw [if_pos (by rfl)]
  refine wpAny_bind ?_
  unfold reLiteralCannotBeTurned
  refine wpAny_bind (wpAny_of_eq (a := some (tx [])) rfl ?_)
  rw [if_neg (by decide)]
  refine wpAny_pure ?_
  obtain ⟨m', rb, hsz, ho, e1, e2, e3⟩ := hn1
  refine wpAny_bind ?_
  show wpAny _ _ (reRunToEnd (Sre.forSearch code.toArray l.toArray groups ((0 : Int).toNat) l.length false)) _ _ _
  refine wp_run_yes rb hN ho ?_
  dsimp only
  rw [if_neg (show ¬ ((0 : Int).toNat < m'.start) by rw [e1]; decide)]
  rw [if_pos (by rfl)]
  refine wpAny_bind (wpAny_pure ?_)
  rw [if_pos (by rfl)]
  refine wpAny_bind (wp_push (a := .str (tx [])) hs₁ ⟨_, rfl⟩ (by simp) fun s₅ hs₅ => ?_)
  refine wpAny_pure ⟨plainId_quiet plain_sub_loop _, ?_⟩
  rw [e1, e2, show (e == 0) = false from beq_eq_false_iff_ne.mpr (by omega)]
  exact subn_end G P hN hl hel hn2 s₅ hs₅ fun s' v ta hv' hr => ⟨.ref ta, ρ, _, hv', hr, h ta⟩
end
end Mine
namespace Mine
open PySem PySem.W PySem.Spec PySem.Calls PyProof.Rows
open PySem.Builtin.Re
section
variable {C : Cx} {E : Value → Shared → Prop} {ρ : Loc} {σ : Sto}
theorem m_sub {n : String} {pa : Addr} {code : List Nat} {groups : Nat} {pl : Sem Bool} {R : Value → List AV → Loc → Sto → Prop} (G : C.Gl) (P : Pat C.K n pa code groups) (h : R (.builtin "re.Pattern.sub") [.ref pa] ρ σ) : AMeth C E (.ref pa) (Str.ofString "sub") pl R ρ σ := by
  intro v rv s hs
  cases rv
  obtain ⟨_, _, _, _, _, _, _, h1, _⟩ := pat_at G P hs
  exact getMethod_builtin ⟨_, h1, rfl⟩ plain_Pattern slot_re_sub type_re_sub (fun a e => by cases e; exact ⟨_, h1, rfl⟩) ⟨[.ref pa], _, _, .one rfl, hs, h⟩
theorem m_subn {n : String} {pa : Addr} {code : List Nat} {groups : Nat} {pl : Sem Bool} {R : Value → List AV → Loc → Sto → Prop} (G : C.Gl) (P : Pat C.K n pa code groups) (h : R (.builtin "re.Pattern.subn") [.ref pa] ρ σ) : AMeth C E (.ref pa) (Str.ofString "subn") pl R ρ σ := by
  intro v rv s hs
  cases rv
  obtain ⟨_, _, _, _, _, _, _, h1, _⟩ := pat_at G P hs
  exact getMethod_builtin ⟨_, h1, rfl⟩ plain_Pattern slot_re_subn type_re_subn (fun a e => by cases e; exact ⟨_, h1, rfl⟩) ⟨[.ref pa], _, _, .one rfl, hs, h⟩
end
/-! the table of a def's inner code: nothing yet, or one code -/
def TabSt (P line col : Nat) (qual : Str) (τ : Sto) : Prop := τ = [(P, tabO #[])] ∨ ∃ c', τ = [(P, tabO #[rawInt line, rawInt col, .ref c']), (c', codeO qual)]
/-- a def of the text, with its code and its name -/
structure FnQ (K : Frag) (p : Program) (n : String) (f c : Addr) : Prop where
  glob : nsIn K mainGlobals (Str.ofString n) = some (some (.ref f))
  keep : keepIn K (.ref f) = true
  obj : ∃ oc od osl pm, K.lookup f = some ⟨oc, od, .func (fnX (Str.ofString n) (Str.ofString n) (fnArgs p n) (fnBody p n) (fnScope p n) [] .none .none .none pm none (.ref c) .none), osl⟩ ∧ codeIn K (.ref c) (Str.ofString n) = true
theorem fnq_of {K : Frag} {p : Program} {n : String} {f c : Addr} (h1 : nsIn K mainGlobals (Str.ofString n) = some (some (.ref f))) (h2 : keepIn K (.ref f) = true)
    (h3 : K.lookup f = some ⟨(objOf K f).cls, (objOf K f).dict, .func (fnX (Str.ofString n) (Str.ofString n) (fnArgs p n) (fnBody p n) (fnScope p n) [] .none .none .none (fdOf K f).pyModule none (.ref c) .none), (objOf K f).slots⟩)
    (h4 : codeIn K (.ref c) (Str.ofString n) = true) : FnQ K p n f c := ⟨h1, h2, _, _, _, _, h3, h4⟩
section
variable {C : Cx} {E : Value → Shared → Prop} {ρ : Loc} {σ : Sto} {env : Env} {Q : AV → Loc → Sto → Prop} {n : Nat}
theorem b_fnQ {p : Program} {nm : String} {f c : Addr} {as : List AV} {names : List Str} (O : C.Ok env (n + 1)) (F : FnQ C.K p nm f c)
    (hb : ∀ qual pm cdv (vs : List Value), vs.length = as.length → bindArgs (fnX (Str.ofString nm) qual (fnArgs p nm) (fnBody p nm) (fnScope p nm) [] .none .none .none pm none cdv .none) ⟨vs, []⟩ = Pure.pure (names.zip vs)) (hnd : names.Nodup) (hloc : ∀ y ∈ names, (fnScope p nm).names.lookup y = some .local)
    (hcell : ∀ x ∈ (fnScope p nm).names, x.2 ≠ .cell) (hco : (fnScope p nm).isCoroutine = false) (hgen : (fnScope p nm).isGenerator = false) (hk : (fnScope p nm).kind = .function)
    (h : ∀ (C' : Cx) E', C'.K = C.K → C'.prog = C.prog → C'.w = C.w → C'.mg = C.mg → C.h₀.StaysIn C'.h₀ → C'.Ok (envX (Str.ofString nm) (fnScope p nm) C'.L f (.ref c) []) n → AW RF C' E' (execs (fnBody p nm) (envX (Str.ofString nm) (fnScope p nm) C'.L f (.ref c) [])) (fun fl _ σ' => Q fl.val ρ σ') (names.zip as) σ) :
    ACall C E (.ref f) as Q ρ σ := by
  obtain ⟨oc, od, osl, pm, ho, hcd⟩ := F.obj
  exact b_def O ho hcd (hb _ pm _) hnd hloc hcell hco hgen hk fun g L' Ok' st => h (C.callee env (envX (Str.ofString nm) (fnScope p nm) L' f (.ref c) []) g L') _ rfl rfl rfl rfl st Ok'
/-- a lambda of a def with one: made, or made again -/
theorem aw_lam1 {nm : String} {sc : Scope} {f c P line col : Nat} {cl : List (Str × Addr)} {params : Arguments} {body : Expr} {scope : Scope} {pos : Pos} {τ : Sto} (G : C.Gl) (M : BM C) (H : CodeHd C.h₀ c P) (hτ : TabSt P line col (Str.ofString nm ++ ".<locals>." ++ "<lambda>") τ)
    {σ₁ σ₂ : Sto} (hσ : σ₁.Perm (τ ++ σ₂)) (hline : pos.line = line) (hcol : pos.col = col) (hdef : ∀ env, defaultsOf params env = ([], [])) (hcl : closureFor scope (envX (Str.ofString nm) sc C.L f (.ref c) cl) = pure [])
    (h : ∀ r c' τ', TabSt P line col (Str.ofString nm ++ ".<locals>." ++ "<lambda>") τ' → (c', codeO (Str.ofString nm ++ ".<locals>." ++ "<lambda>")) ∈ τ' → Q (.ref r) ρ ((r, lamO (Str.ofString nm ++ ".<locals>." ++ "<lambda>") params body scope [] c') :: (τ' ++ σ₂))) :
    AW RV C E (eval (.Lambda params body scope pos) (envX (Str.ofString nm) sc C.L f (.ref c) cl)) Q ρ σ₁ := by
  subst hline hcol
  rcases hτ with rfl | ⟨c', rfl⟩
  · refine aw_Lambda0 (ps := #[]) (σ' := σ₂) G M H hσ trivial rfl hdef hcl fun r c' => ?_
    exact h r c' [(P, tabO #[rawInt pos.line, rawInt pos.col, .ref c']), (c', codeO (Str.ofString nm ++ ".<locals>." ++ "<lambda>"))] (.inr ⟨c', rfl⟩) (.tail _ (.head _))
  · intro s hs
    have hs := hs.perm hσ
    refine aw_Lambda1 (σ := [(P, tabO #[rawInt pos.line, rawInt pos.col, .ref c']), (c', codeO (Str.ofString nm ++ ".<locals>." ++ "<lambda>"))] ++ σ₂) (ps := #[rawInt pos.line, rawInt pos.col, .ref c']) (c' := c') G M H (.head _) trivial (by simp [codeAmong, rawInt]) hdef hcl (fun r => h r c' _ (.inr ⟨c', rfl⟩) (.tail _ (.head _))) s hs
end
end Mine
namespace Mine
open PySem
/-! what join_header_words writes -/
abbrev KV := List Nat × Option (List Nat)
def optS : Option (List Nat) → AV
  | none => .none
  | some v => .str (tx v)
def jv (v : List Nat) : List Nat := if tokW v = true then v else 34 :: (escL v ++ [34])
def jp (kv : KV) : List Nat := match kv.2 with
  | none => kv.1
  | some v => kv.1 ++ 61 :: jv v
def joinP (ps : List KV) : List Nat := joinL [59, 32] (ps.map jp)
def joinW (ls : List (List KV)) : List Nat := joinL [44, 32] ((ls.filter fun ps => !ps.isEmpty).map joinP)
theorem escL_len (v : List Nat) : (escL v).length ≤ 2 * v.length := by
  induction v with
  | nil => simp [escL]
  | cons c v ih =>
    unfold escL at ih ⊢
    rw [List.flatMap_cons, List.length_append, List.length_cons]
    have : (esc1 c).length ≤ 2 := by unfold esc1; split <;> simp
    omega
theorem jv_len (v : List Nat) : (jv v).length ≤ 2 * v.length + 2 := by
  unfold jv
  have := escL_len v
  split
  · omega
  · simp; omega
def kvOk (kv : KV) : Prop := kv.1.length ≤ 100 ∧ ∀ v, kv.2 = some v → v.length ≤ 1000
theorem jp_len {kv : KV} (h : kvOk kv) : (jp kv).length ≤ 2200 := by
  unfold jp
  obtain ⟨h1, h2⟩ := h
  cases hv : kv.2 with
  | none => dsimp only; omega
  | some v =>
    have := h2 v hv
    have := jv_len v
    dsimp only
    simp; omega
theorem sum_le {ls : List (List Nat)} {b : Nat} (h : ∀ l ∈ ls, l.length ≤ b) : (ls.map List.length).sum ≤ b * ls.length := by
  induction ls with
  | nil => simp
  | cons l ls ih =>
    have h1 := h l (.head _)
    have h2 := ih fun l' h' => h l' (.tail _ h')
    rw [List.map_cons, List.sum_cons, List.length_cons, Nat.mul_succ]
    omega
theorem joinL_len (sep : List Nat) : ∀ ls : List (List Nat), (joinL sep ls).length ≤ (ls.map List.length).sum + ls.length * sep.length
  | [] => by simp [joinL]
  | [x] => by simp [joinL]
  | x :: y :: r => by
    have ih := joinL_len sep (y :: r)
    show (x ++ sep ++ joinL sep (y :: r)).length ≤ _
    simp only [List.length_append, List.map_cons, List.sum_cons, List.length_cons, Nat.succ_mul] at ih ⊢
    omega
theorem joinP_len {ps : List KV} (h : ∀ kv ∈ ps, kvOk kv) (hl : ps.length ≤ 10) : (joinP ps).length ≤ 22020 := by
  unfold joinP
  have h1 := joinL_len [59, 32] (ps.map jp)
  have h2 := sum_le (ls := ps.map jp) (b := 2200) fun l hl => by
    obtain ⟨kv, hkv, rfl⟩ := List.mem_map.mp hl
    exact jp_len (h kv hkv)
  simp only [List.length_map, List.length_cons, List.length_nil] at h1 h2
  omega
end Mine
namespace Mine
open PySem PySem.W PySem.Spec PySem.Calls PyProof.Rows
section
variable {C : Cx} {E : Value → Shared → Prop} {env : Env} {pos : Pos} {ρ : Loc} {σ : Sto} {Q : AV → Loc → Sto → Prop}
/-- the value is a text -/
def FTx (v : AV) (P : List Nat → Prop) : Prop := ∃ y, v = .str (tx y) ∧ P y
/-- the parts of an f-string -/
def AJ (C : Cx) (E : Value → Shared → Prop) (env : Env) : List Expr → List Nat → (AV → Loc → Sto → Prop) → Loc → Sto → Prop
  | [], acc, Q, ρ, σ => acc.length ≤ 1000000 ∧ Q (.str (tx acc)) ρ σ
  | e :: rest, acc, Q, ρ, σ => AW RV C E (eval e env) (fun v ρ₁ σ₁ => ∃ y, v = .str (tx y) ∧ (acc ++ y).length ≤ 1000000 ∧ AJ C E env rest (acc ++ y) Q ρ₁ σ₁) ρ σ
theorem aj_run : ∀ (es : List Expr) (acc : List Nat) (ρ : Loc) (σ : Sto), AJ C E env es acc Q ρ σ → AW RV C E (joinParts (tx acc) (evalEach es env)) Q ρ σ
  | [], acc, ρ, σ, h => fun s hs => by
    show wpAny _ _ (joinParts (tx acc) []) _ E s
    exact joinParts_nil ⟨.str _, ρ, σ, ⟨_, rfl⟩, hs.toks _, h.2⟩ (by rw [tx_len, sizeLine_eq]; have := h.1; omega)
  | e :: rest, acc, ρ, σ, h => fun s hs => by
    show wpAny _ _ (joinParts (tx acc) (eval e env :: evalEach rest env)) _ E s
    refine joinParts_cons (wpAny_mono (h s hs) (fun v s₁ h₁ => ?_) fun _ _ x => x)
    obtain ⟨_, ρ₁, σ₁, r, hs₁, y, rfl, hl, hr⟩ := h₁
    obtain ⟨t, rfl⟩ := r
    refine ⟨?_, ?_⟩
    · rw [tx_app, tx_len, sizeLine_eq]; omega
    · rw [tx_app]
      exact aj_run rest _ ρ₁ σ₁ hr s₁ hs₁
theorem aw_JStr {v₁ v₂ : Expr} {rest : List Expr} (h : AJ C E env (v₁ :: v₂ :: rest) [] Q ρ σ) : AW RV C E (eval (.JoinedStr (v₁ :: v₂ :: rest) pos) env) Q ρ σ :=
  fun s hs => JoinedStr_many (aj_run _ [] ρ σ h s hs)
theorem aj_nil {acc : List Nat} (h1 : acc.length ≤ 1000000) (h : Q (.str (tx acc)) ρ σ) : AJ C E env [] acc Q ρ σ := ⟨h1, h⟩
theorem aj_cons {e : Expr} {rest : List Expr} {acc : List Nat} (h : AW RV C E (eval e env) (fun v ρ₁ σ₁ => FTx v fun y => (acc ++ y).length ≤ 1000000 ∧ AJ C E env rest (acc ++ y) Q ρ₁ σ₁) ρ σ) : AJ C E env (e :: rest) acc Q ρ σ := h
theorem ftx {y : List Nat} {P : List Nat → Prop} (h : P y) : FTx (.str (tx y)) P := ⟨y, rfl, h⟩
theorem aw_FVs {value : Expr} (h : AW RV C E (eval value env) (fun v ρ₁ σ₁ => FTx v fun y => y.length ≤ 1000000 ∧ Q (.str (tx y)) ρ₁ σ₁) ρ σ) : AW RV C E (eval (.FormattedValue value 115 none pos) env) Q ρ σ := fun s hs => by
  refine wpAny_FormattedValue_s (wpAny_mono (h s hs) (fun v s₁ h₁ => ?_) fun _ _ x => x)
  obtain ⟨_, ρ₁, σ₁, r, hs₁, y, rfl, hl, hq⟩ := h₁
  obtain ⟨t, rfl⟩ := r
  have hz : (tx y).length ≤ sizeLine := by rw [tx_len, sizeLine_eq]; omega
  refine habitSame_str (fun t' tk => ?_) hz
  refine formatField_str (fun t2 tk2 => ?_) hz
  exact ⟨.str _, ρ₁, σ₁, ⟨t2, rfl⟩, (hs₁.toks _).toks _, hq⟩
end
end Mine
namespace Mine
open PySem PySem.W PySem.Spec PySem.Calls PyProof.Rows
theorem tok_spans (st b e : Nat) : spans 1 st (tokX b e) = [(st : Int), (e : Int), (b : Int), (e : Int)] := rfl
theorem tok_spOk {b e : Nat} (h : b ≤ e) : spOk 1 (tokX b e).k := by
  intro g hg b' e' he
  have : g = 0 := by omega
  subst this
  have h1 : gsp (tokX b e).k 0 = (some b, some e) := rfl
  rw [h1] at he
  cases he
  exact h
theorem je_M {l : List Nat} {p st : Nat} {x : Rs} (h : jeN l p = some (st, x)) : p ≤ st ∧ st < x.hd ∧ x.hd ≤ l.length ∧ spOk 1 x.k ∧ x = tokX st (st + 1) := by
  unfold jeN at h
  cases hf : fi esq l (l.length + 1 - p) p with
  | none => rw [hf] at h; cases h
  | some s =>
    rw [hf] at h
    cases h
    obtain ⟨h1, h2, h3, h4⟩ := fi_some _ _ hf
    exact ⟨h1, by show st < st + 1; omega, by show st + 1 ≤ _; omega, tok_spOk (by omega), rfl⟩
theorem ff_some2 {r : Nat → Option Rs} {st : Nat} {x : Rs} : ∀ n s, firstFrom r s n = some (st, x) → s ≤ st ∧ r st = some x
  | 0, s, h => by unfold firstFrom at h; cases h
  | n + 1, s, h => by
    unfold firstFrom at h
    cases hr : r s with
    | some y =>
      rw [hr] at h
      cases h
      exact ⟨Nat.le_refl _, hr⟩
    | none =>
      rw [hr] at h
      obtain ⟨h1, h2⟩ := ff_some2 n (s + 1) h
      exact ⟨by omega, h2⟩
theorem ec_M {l : List Nat} {p st : Nat} {x : Rs} (h : ecN l p = some (st, x)) : p ≤ st ∧ st < x.hd ∧ x.hd ≤ l.length ∧ spOk 1 x.k ∧ x = tokX (st + 1) (st + 2) := by
  unfold ecN at h
  split at h
  · cases h
  · obtain ⟨h1, h2⟩ := ff_some2 _ _ h
    unfold rsU at h2
    split at h2
    · rename_i hc
      cases h2
      exact ⟨h1, by show st < st + 2; omega, by show st + 2 ≤ _; omega, tok_spOk (by omega), rfl⟩
    · cases h2
theorem take_dropg {l : List Nat} {i : Nat} (h : i < l.length) : (l.take (i + 1)).drop i = [l.getD i 0] := by
  rw [List.drop_take, show i + 1 - i = 1 by omega, List.drop_eq_getElem_cons h, List.getD_eq_getElem?_getD, List.getElem?_eq_getElem h]
  rfl
section
variable {C : Cx} {E : Value → Shared → Prop} {ρ : Loc} {σ : Sto} {env : Env} {Q : AV → Loc → Sto → Prop} {n : Nat}
/-- a lambda of a def with one, the store in its own order -/
theorem aw_lam2 {nm : String} {sc : Scope} {f c P line col : Nat} {cl : List (Str × Addr)} {params : Arguments} {body : Expr} {scope : Scope} {pos : Pos} {τ σ₁ σ₂ : Sto} (pre : Sto) (g : Sto → Sto) (G : C.Gl) (M : BM C) (H : CodeHd C.h₀ c P) (hτ : TabSt P line col (Str.ofString nm ++ ".<locals>." ++ "<lambda>") τ)
    (hg : ∀ τ, g τ = pre ++ (τ ++ σ₂)) (hσ : σ₁ = g τ) (hline : pos.line = line) (hcol : pos.col = col) (hdef : ∀ env, defaultsOf params env = ([], [])) (hcl : closureFor scope (envX (Str.ofString nm) sc C.L f (.ref c) cl) = pure [])
    (h : ∀ r c' τ', TabSt P line col (Str.ofString nm ++ ".<locals>." ++ "<lambda>") τ' → (c', codeO (Str.ofString nm ++ ".<locals>." ++ "<lambda>")) ∈ τ' → (c', codeO (Str.ofString nm ++ ".<locals>." ++ "<lambda>")) ∈ g τ' → Q (.ref r) ρ ((r, lamO (Str.ofString nm ++ ".<locals>." ++ "<lambda>") params body scope [] c') :: g τ')) :
    AW RV C E (eval (.Lambda params body scope pos) (envX (Str.ofString nm) sc C.L f (.ref c) cl)) Q ρ σ₁ := by
  subst hσ
  intro s hs
  refine wpAny_mono (aw_lam1 (Q := fun v ρ' σ' => ∃ r c' τ', v = .ref r ∧ TabSt P line col (Str.ofString nm ++ ".<locals>." ++ "<lambda>") τ' ∧ (c', codeO (Str.ofString nm ++ ".<locals>." ++ "<lambda>")) ∈ τ' ∧ ρ' = ρ ∧ σ' = (r, lamO (Str.ofString nm ++ ".<locals>." ++ "<lambda>") params body scope [] c') :: (τ' ++ (pre ++ σ₂))) (σ₂ := pre ++ σ₂) G M H hτ (by rw [hg]; exact List.perm_append_comm_assoc _ _ _) hline hcol hdef hcl (fun r c' τ' h1 h2 => ⟨r, c', τ', rfl, h1, h2, rfl, rfl⟩) s hs) (fun v s' h' => ?_) fun _ _ x => x
  obtain ⟨v', ρ', σ', rv, hr, r, c', τ', rfl, h1, h2, rfl, rfl⟩ := h'
  refine ⟨.ref r, ρ', (r, lamO (Str.ofString nm ++ ".<locals>." ++ "<lambda>") params body scope [] c') :: g τ', rv, hr.perm (List.Perm.cons _ ?_), h r c' τ' h1 h2 ?_⟩
  · rw [hg]; exact List.perm_append_comm_assoc _ _ _
  · rw [hg]; exact List.mem_append_right _ (List.mem_append_left _ h2)
end
end Mine
namespace Mine
open PySem PySem.W PySem.Spec PySem.Calls PyProof.Rows
/-! what split_header_words reads -/
def keyOk (k : List Nat) : Prop := k ≠ [] ∧ ∀ c ∈ k, nt c = true
def tailP (ps : List KV) : List Nat := ps.flatMap fun kv => 59 :: 32 :: jp kv
def tailL (ls : List (List KV)) : List Nat := ls.flatMap fun l => 44 :: 32 :: joinP l
theorem joinL_cons (sep x : List Nat) (r : List (List Nat)) : joinL sep (x :: r) = x ++ r.flatMap fun y => sep ++ y := by
  induction r generalizing x with
  | nil => simp [joinL]
  | cons y r ih =>
    show x ++ sep ++ joinL sep (y :: r) = _
    rw [ih, List.flatMap_cons]
    simp
theorem joinP_cons (kv : KV) (ps : List KV) : joinP (kv :: ps) = jp kv ++ tailP ps := by
  unfold joinP tailP
  rw [List.map_cons, joinL_cons, List.flatMap_map]
  rfl
theorem joinW_cons {l : List KV} {ls : List (List KV)} (h : ∀ ps ∈ l :: ls, ps ≠ []) : joinW (l :: ls) = joinP l ++ tailL ls := by
  unfold joinW tailL
  rw [List.filter_eq_self.mpr]
  · rw [List.map_cons, joinL_cons, List.flatMap_map]
    rfl
  · intro ps hps
    have := h ps hps
    cases ps with
    | nil => exact absurd rfl this
    | cons _ _ => rfl
def restB (ps : List KV) (ls : List (List KV)) : List Nat := tailP ps ++ tailL ls
theorem restB_nil : restB [] [] = [] := rfl
theorem restB_p (kv : KV) (ps : List KV) (ls : List (List KV)) : restB (kv :: ps) ls = 59 :: 32 :: (jp kv ++ restB ps ls) := by
  unfold restB tailP
  rw [List.flatMap_cons]; simp
theorem restB_l (kv : KV) (l : List KV) (ls : List (List KV)) : restB [] ((kv :: l) :: ls) = 44 :: 32 :: (jp kv ++ restB l ls) := by
  unfold restB tailL
  rw [List.flatMap_cons, joinP_cons]; simp [tailP]
theorem restB_head {ps : List KV} {ls : List (List KV)} {c : Nat} {v : List Nat} (hl : ∀ l ∈ ls, l ≠ []) (h : restB ps ls = c :: v) : c = 59 ∨ c = 44 := by
  cases ps with
  | cons kv ps => rw [restB_p] at h; cases h; exact .inl rfl
  | nil =>
    cases ls with
    | nil => cases h
    | cons l ls =>
      cases l with
      | nil => exact absurd rfl (hl [] (.head _))
      | cons kv l => rw [restB_l] at h; cases h; exact .inr rfl
theorem nt59 : nt 59 = false := by decide +kernel
theorem nt44 : nt 44 = false := by decide +kernel
theorem nt61 : nt 61 = false := by decide +kernel
theorem sp59 : sp 59 = false := by decide +kernel
theorem sp44 : sp 44 = false := by decide +kernel
theorem sp32 : sp 32 = true := by decide +kernel
theorem vch59 : vch 59 = false := by decide +kernel
theorem vch44 : vch 44 = false := by decide +kernel
theorem tch_lt {c : Nat} (h : tch c = true) : c < 256 := by
  by_cases h' : c < 256
  · exact h'
  · rw [tch_big c (by omega)] at h; cases h
theorem tch_all : ∀ c, c < 256 → tch c = true → vch c = true ∧ sp c = false ∧ nt c = true ∧ c ≠ 34 := by decide +kernel
theorem tch_v {c : Nat} (h : tch c = true) : vch c = true ∧ sp c = false ∧ nt c = true ∧ c ≠ 34 := tch_all c (tch_lt h) h
theorem tokW_all {v : List Nat} (h : tokW v = true) : v ≠ [] ∧ ∀ c ∈ v, tch c = true := by
  unfold tokW at h
  simp at h
  exact ⟨by rintro rfl; exact h.1 rfl, h.2⟩
/-- what is written between the marks, cut at its backslashes -/
theorem esc_segs (v : List Nat) : ∃ p0 sg, escL v = p0 ++ segs sg ∧ (∀ c ∈ p0, qch c = true) ∧ ∀ s ∈ sg, s.1 ≠ 10 ∧ ∀ c ∈ s.2, qch c = true := by
  induction v with
  | nil => exact ⟨[], [], rfl, by simp, by simp⟩
  | cons c v ih =>
    obtain ⟨p0, sg, e, h1, h2⟩ := ih
    have e1 : escL (c :: v) = esc1 c ++ escL v := by unfold escL; rw [List.flatMap_cons]
    rw [e1, e]
    unfold esc1
    by_cases hc : esq c = true
    · rw [if_pos hc]
      refine ⟨[], (c, p0) :: sg, by rw [segs_cons]; simp, by simp, fun s hs => ?_⟩
      rcases List.mem_cons.mp hs with rfl | hs
      · exact ⟨esq10 hc, h1⟩
      · exact h2 s hs
    · rw [if_neg hc]
      refine ⟨c :: p0, sg, rfl, fun c' hc' => ?_, h2⟩
      rcases List.mem_cons.mp hc' with rfl | hc'
      · unfold qch
        unfold esq at hc
        simpa using hc
      · exact h1 c' hc'
theorem tailP_len {ps : List KV} (h : ∀ kv ∈ ps, kvOk kv) : (tailP ps).length ≤ 2202 * ps.length := by
  induction ps with
  | nil => simp [tailP]
  | cons kv ps ih =>
    have h1 := jp_len (h kv (.head _))
    have h2 := ih fun k hk => h k (.tail _ hk)
    unfold tailP at h2 ⊢
    rw [List.flatMap_cons, List.length_append]
    simp only [List.length_cons]
    omega
theorem tailL_len {ls : List (List KV)} (h : ∀ l ∈ ls, l.length ≤ 10 ∧ ∀ kv ∈ l, kvOk kv) : (tailL ls).length ≤ 22022 * ls.length := by
  induction ls with
  | nil => simp [tailL]
  | cons l ls ih =>
    have h1 := joinP_len (h l (.head _)).2 (h l (.head _)).1
    have h2 := ih fun k hk => h k (.tail _ hk)
    unfold tailL at h2 ⊢
    rw [List.flatMap_cons, List.length_append]
    simp only [List.length_cons]
    omega
theorem restB_len {ps : List KV} {ls : List (List KV)} (h : ps.length ≤ 10 ∧ ∀ kv ∈ ps, kvOk kv) (hl : ∀ l ∈ ls, l.length ≤ 10 ∧ ∀ kv ∈ l, kvOk kv) (hn : ls.length ≤ 12) : (restB ps ls).length ≤ 300000 := by
  unfold restB
  have h1 := tailP_len h.2
  have h2 := tailL_len hl
  rw [List.length_append]
  omega
/-- a list of lists of pairs, as the store has it -/
abbrev LL := List (Addr × List (Addr × KV))
def LLIn (a : Addr) (as : LL) (σ : Sto) : Prop := (a, AO.list (as.map fun y => .ref y.1)) ∈ σ ∧ ∀ y ∈ as, (y.1, AO.list (y.2.map fun z => .ref z.1)) ∈ σ ∧ ∀ z ∈ y.2, (z.1, AO.tuple [.str (tx z.2.1), optS z.2.2]) ∈ σ
def LLOk (as : LL) : Prop := as.length ≤ 40 ∧ ∀ y ∈ as, y.2.length ≤ 10 ∧ ∀ z ∈ y.2, kvOk z.2
def LLv (as : LL) : List (List KV) := as.map fun y => y.2.map (·.2)
/-- what is good to read: a header's lists -/
def HdOk (ls : List (List KV)) : Prop := ls ≠ [] ∧ ls.length ≤ 12 ∧ ∀ l ∈ ls, l ≠ [] ∧ l.length ≤ 10 ∧ ∀ kv ∈ l, keyOk kv.1 ∧ kvOk kv
/-- the lists that were read, in the store -/
def LLMem (as : LL) (l : Sto) : Prop := ∀ y ∈ as, (y.1, AO.list (y.2.map fun z => .ref z.1)) ∈ l ∧ ∀ z ∈ y.2, (z.1, AO.tuple [.str (tx z.2.1), optS z.2.2]) ∈ l
def PMem (ps : List (Addr × KV)) (l : Sto) : Prop := ∀ z ∈ ps, (z.1, AO.tuple [.str (tx z.2.1), optS z.2.2]) ∈ l
/-- what is left of a text: at a pair's beginning, or behind one -/
inductive Left : List Nat → List KV → List (List KV) → Bool → Prop
  | at (ws : List Nat) (kv : KV) (ps : List KV) (ls : List (List KV)) : (ws = [] ∨ ws = [32]) → Left (ws ++ (jp kv ++ restB ps ls)) (kv :: ps) ls true
  | behind (ps : List KV) (ls : List (List KV)) : Left (restB ps ls) ps ls false
structure SpJ (tot : List (List KV)) (t : List Nat) (ps : List KV) (lss : List (List KV)) (b : Bool) (dn : LL) (cur : List (Addr × KV)) (l : Sto) : Prop where
  left : Left t ps lss b
  cne : b = false → cur ≠ []
  tot : LLv dn ++ (cur.map (·.2) ++ ps) :: lss = tot
  len : cur.length + ps.length ≤ 10
  lens : dn.length + lss.length ≤ 200
  ls : lss.length ≤ 12
  pok : ∀ kv ∈ ps, keyOk kv.1 ∧ kvOk kv
  lok : ∀ l ∈ lss, l ≠ [] ∧ l.length ≤ 10 ∧ ∀ kv ∈ l, keyOk kv.1 ∧ kvOk kv
  lmem : LLMem dn l
  pmem : PMem cur l
theorem SpJ.pair {tot : List (List KV)} {t : List Nat} {kv : KV} {ps : List KV} {lss : List (List KV)} {b : Bool} {dn : LL} {cur : List (Addr × KV)} {l : Sto} (h : SpJ tot t (kv :: ps) lss b dn cur l) (r : Addr) :
    SpJ tot (restB ps lss) ps lss false dn (cur ++ [(r, kv)]) ((r, .tuple [.str (tx kv.1), optS kv.2]) :: l) where
  left := .behind _ _
  cne := fun _ => by simp
  tot := by rw [← h.tot]; simp
  len := by have := h.len; simp at this ⊢; omega
  lens := h.lens
  ls := h.ls
  pok := fun k hk => h.pok k (.tail _ hk)
  lok := h.lok
  lmem := fun y hy => ⟨.tail _ (h.lmem y hy).1, fun z hz => .tail _ ((h.lmem y hy).2 z hz)⟩
  pmem := fun z hz => by
    rcases List.mem_append.mp hz with hz | hz
    · exact .tail _ (h.pmem z hz)
    · rw [List.mem_singleton.mp hz]; exact .head _
theorem SpJ.semi {tot : List (List KV)} {t : List Nat} {kv : KV} {ps : List KV} {lss : List (List KV)} {b : Bool} {dn : LL} {cur : List (Addr × KV)} {l : Sto} (h : SpJ tot t (kv :: ps) lss b dn cur l) :
    SpJ tot (jp kv ++ restB ps lss) (kv :: ps) lss true dn cur l where
  left := .at [] kv ps lss (.inl rfl)
  cne := fun e => by cases e
  tot := h.tot
  len := h.len
  lens := h.lens
  ls := h.ls
  pok := h.pok
  lok := h.lok
  lmem := h.lmem
  pmem := h.pmem
theorem SpJ.comma {tot : List (List KV)} {t : List Nat} {kv : KV} {ps : List KV} {lss : List (List KV)} {b : Bool} {dn : LL} {cur : List (Addr × KV)} {l : Sto} (h : SpJ tot t [] ((kv :: ps) :: lss) b dn cur l) (r : Addr) :
    SpJ tot ([32] ++ (jp kv ++ restB ps lss)) (kv :: ps) lss true (dn ++ [(r, cur)]) [] ((r, .list (cur.map fun z => .ref z.1)) :: l) where
  left := .at [32] kv ps lss (.inr rfl)
  cne := fun e => by cases e
  tot := by rw [← h.tot]; unfold LLv; simp
  len := by have := (h.lok _ (.head _)).2.1; simpa using this
  lens := by have := h.lens; simp at this ⊢; omega
  ls := by have := h.ls; simp at this; omega
  pok := (h.lok _ (.head _)).2.2
  lok := fun l hl => h.lok l (.tail _ hl)
  lmem := fun y hy => by
    rcases List.mem_append.mp hy with hy | hy
    · exact ⟨.tail _ (h.lmem y hy).1, fun z hz => .tail _ ((h.lmem y hy).2 z hz)⟩
    · rw [List.mem_singleton.mp hy]
      exact ⟨.head _, fun z hz => .tail _ (h.pmem z hz)⟩
  pmem := fun z hz => nomatch hz
theorem sub_in {a b c e : Addr × AO} {τ l σ : Sto} : SubS (a :: b :: c :: (τ ++ ((e :: l) ++ σ))) (a :: b :: c :: e :: (τ ++ (l ++ σ))) :=
  ⟨[], by rw [List.append_nil]; exact ((List.perm_middle.symm.cons _).cons _).cons _⟩
theorem flat_len {α : Type} {d : List (List α)} {k : Nat} (h : ∀ l ∈ d, l.length ≤ k) : d.flatten.length ≤ k * d.length := by
  induction d with
  | nil => simp
  | cons l d ih =>
    have h1 := h l (.head _)
    have h2 := ih fun l' h' => h l' (.tail _ h')
    rw [List.flatten_cons, List.length_append, List.length_cons, Nat.mul_succ]
    omega
theorem LLv_len (as : LL) : (LLv as).length = as.length := by unfold LLv; simp
end Mine
namespace Mine
open PySem PySem.W PySem.Spec PySem.Calls PyProof.Rows
/-- the end of a law: True, and the tables stand -/
def LEnd (Ps : List Addr) : AF → Loc → Sto → Prop := fun fl _ σ' => fl = .ret (.bool true) ∧ ∀ P ∈ Ps, ∃ ps, (P, tabO ps) ∈ σ'
theorem TabSt.tab {P line col : Nat} {qual : Str} {τ : Sto} (h : TabSt P line col qual τ) : ∃ ps, (P, tabO ps) ∈ τ := by
  rcases h with rfl | ⟨c', rfl⟩
  · exact ⟨_, .head _⟩
  · exact ⟨_, .head _⟩
/-- from the library's goal to AW, over a heap g that hides the tables -/
theorem law_wg {prog p : Program} {w : World} {s₁ : Shared} {g h₁ : Heap} {tk₁ : Nat} {L f a : Addr} {q : Str} {sc : Scope} {cd : Value} {cl : List (Str × Addr)} {body : List Stmt} {m mg mb : Str → Option Value} {K : Frag} {loose : List Str} {mean : ExcName → Option Value} {Q : Flow → Shared → Prop} {E : Value → Shared → Prop} {vs : List Value} {ns : List Int} {cells : List (Addr × Obj)}
    (pw : Program) (clf : Addr → List (Str × Addr)) (σ : Addr → Sto) (Ps : List Addr)
    (KX : K.In g) (T : Top p loose mean mg mb g) (B : Below callerA g [] g) (hL : g.IsList a vs.toArray) (hI : IntsAre vs ns) (F : Fr g L h₁ m) (N : News g L h₁ cells)
    (hbody : body = fnBody pw "law") (hsc : sc = fnScope pw "law") (hcl : cl = clf L) (hm : m (Str.ofString "script") = some (.ref a))
    (hσ : ∀ p ∈ σ L, ∃ o, (p.1, o) ∈ cells ∧ RO p.2 o) (nd : ((σ L).map (·.1)).Nodup) (hk : (fnScope pw "law").kind = .function)
    (law : ∀ C : Cx, C.K = K → C.w = w → C.h₀ = g → BM C → C.L = L → C.Ok (envX q (fnScope pw "law") C.L f cd (clf C.L)) 20 → BaseL C a (ns.map .int) → AW RF C E (execs (fnBody pw "law") (envX q (fnScope pw "law") C.L f cd (clf C.L))) (LEnd Ps) [(Str.ofString "script", .ref a)] (σ C.L))
    (hQ : ∀ h tk m, Fr g L h m → (∀ P ∈ Ps, ∃ ps, h.get? P = some (tabObj ps)) → Q (.ret (.bool true)) { s₁ with heap := h, toks := tk }) :
    wpAny (model prog w) (callerA.deeper (envX q sc L f cd cl)) (execs body (envX q sc L f cd cl)) Q E { s₁ with heap := h₁, toks := tk₁ } := by
  subst hbody hsc hcl
  let C : Cx := { prog := prog, w := w, A := callerA.deeper (envX q (fnScope pw "law") L f cd (clf L)), A₀ := callerA, base := g, outer := [], h₀ := g, L := L, s₀ := s₁, K := K, p := p, loose := loose, mg := mg, mb := mb }
  have O : C.Ok (envX q (fnScope pw "law") C.L f cd (clf C.L)) 20 := by
    refine ⟨B, KX, topRead_of T, Around.frames_deeper B.stack, rfl, hk, rfl, ?_, ?_⟩
    · show callerA.depth + 1 + 20 < recursionLimit
      decide
    · show callerA.units + 3 + 10 * 20 < cLine
      decide
  have hs : Rel C [(Str.ofString "script", .ref a)] (σ L) { s₁ with heap := h₁, toks := tk₁ } := by
    refine ⟨⟨h₁, tk₁, rfl⟩, ⟨m, F, fun x v e => ?_⟩, fun p hp => ?_, nd⟩
    · have := lk_mem e
      rw [List.mem_singleton] at this
      cases this
      exact ⟨_, hm, rfl⟩
    · obtain ⟨o, ho, r⟩ := hσ p hp
      exact ⟨o, (N _ ho).1, (N _ ho).2.1, (N _ ho).2.2, r⟩
  have M : BM C := bm_of (C := C) T.bmain T.g
  refine wpAny_mono (law C rfl rfl rfl M rfl O ⟨vs, rvs_ints hI, hL⟩ _ hs) (fun fl s' ⟨fl', ρ', σ', rf, hr, e, ht⟩ => ?_) fun _ _ e => e
  subst e
  obtain ⟨v, rfl, rv⟩ := rf
  cases rv
  obtain ⟨⟨h, tk, e⟩, ⟨m', F', _⟩, led, _⟩ := hr
  subst e
  refine hQ h tk m' F' fun P hP => ?_
  obtain ⟨ps, hm⟩ := ht P hP
  obtain ⟨o, e, _, _, r⟩ := led _ hm
  cases r
  exact ⟨ps, e⟩
theorem ACall.perm {C : Cx} {E : Value → Shared → Prop} {f : Value} {as : List AV} {Q : AV → Loc → Sto → Prop} {ρ : Loc} {σ σ' : Sto} (h : ACall C E f as Q ρ σ') (hp : σ.Perm σ') : ACall C E f as Q ρ σ := fun vs hv s hs => h vs hv s (hs.perm hp)
theorem ACall.subS {C : Cx} {E : Value → Shared → Prop} {f : Value} {as : List AV} {Q : AV → Loc → Sto → Prop} {ρ : Loc} {σ σ' : Sto} (h : ACall C E f as Q ρ σ') (hp : SubS σ' σ) : ACall C E f as Q ρ σ := fun vs hv s hs => h vs hv s (hs.subS hp)
theorem ACall.frame {C : Cx} {E : Value → Shared → Prop} {f : Value} {as : List AV} {Q Q' : AV → Loc → Sto → Prop} {ρ : Loc} {σ σ' : Sto} (h : ACall C E f as Q' ρ σ') (hp : σ.Perm σ') (k : ∀ b ρ₁ σ₁, Q' b ρ₁ σ₁ → ∃ σ₂, SubS σ₂ σ₁ ∧ Q b ρ₁ σ₂) : ACall C E f as Q ρ σ := fun vs hv s hs =>
  wpAny_mono (h vs hv s (hs.perm hp)) (fun a s' ⟨b, ρ', σ', r, x, q⟩ => by
    obtain ⟨σ₂, h1, h2⟩ := k b ρ' σ' q
    exact ⟨b, ρ', σ₂, r, x.subS h1, h2⟩) fun _ _ e => e
theorem SubS.ofPerm {σ₁ σ₂ : Sto} (h : σ₁.Perm σ₂) : SubS σ₁ σ₂ := ⟨[], by rw [List.append_nil]; exact h.symm⟩
end Mine
namespace Mine
open PySem PySem.W PySem.Spec PySem.Calls PyProof.Rows
/-! reading what was written, sign by sign -/
def rdS (s : List Nat × Bool) (c : Nat) : List Nat × Bool := if c = 92 ∧ s.2 = false then (s.1, true) else (s.1 ++ [c], false)
theorem rd_plain : ∀ (v acc : List Nat), (∀ c ∈ v, c ≠ 92) → v.foldl rdS (acc, false) = (acc ++ v, false)
  | [], acc, _ => by simp
  | c :: v, acc, h => by
    rw [List.foldl_cons]
    have : rdS (acc, false) c = (acc ++ [c], false) := by unfold rdS; rw [if_neg (fun e => h c (.head _) e.1)]
    rw [this, rd_plain v _ fun c' h' => h c' (.tail _ h')]
    simp
theorem rd_esc : ∀ (v acc : List Nat), (escL v).foldl rdS (acc, false) = (acc ++ v, false)
  | [], acc => by simp [escL]
  | c :: v, acc => by
    have e1 : escL (c :: v) = esc1 c ++ escL v := by unfold escL; rw [List.flatMap_cons]
    rw [e1, List.foldl_append]
    have : (esc1 c).foldl rdS (acc, false) = (acc ++ [c], false) := by
      unfold esc1
      split
      · simp [rdS]
      · rename_i hc
        have h92 : c ≠ 92 := fun e => hc (by rw [e]; rfl)
        simp [rdS, h92]
    rw [this, rd_esc v]
    simp
theorem tch92 {c : Nat} (h : tch c = true) : c ≠ 92 := by
  rintro rfl
  exact absurd h (by decide)
theorem strip_quoted (u : List Nat) : stripL (34 :: (u ++ [34])) = u := by
  rw [stripL_eq, if_pos (by simp)]
  exact stripB_snoc u
theorem strip_plain {v : List Nat} (h : ∀ c ∈ v, c ≠ 34) : stripL v = v := by
  rw [stripL_eq, if_neg]
  · unfold stripB
    rw [if_neg]
    rintro ⟨_, h2⟩
    have : (34 : Nat) ∈ v := List.mem_of_mem_drop (by rw [h2]; exact .head _)
    exact h 34 this rfl
  · intro h1
    have : (34 : Nat) ∈ v := List.mem_of_mem_take (by rw [h1]; exact .head _)
    exact h 34 this rfl
theorem read_jv (v : List Nat) : (stripL (jv v)).foldl rdS ([], false) = (v, false) := by
  unfold jv
  by_cases h : tokW v = true
  · rw [if_pos h]
    obtain ⟨_, hc⟩ := tokW_all h
    rw [strip_plain fun c hc' => (tch_v (hc c hc')).2.2.2, rd_plain _ _ fun c hc' => tch92 (hc c hc')]
    simp
  · rw [if_neg h, strip_quoted, rd_esc]
    simp
/-! headers as data -/
def optDS : Option (List Nat) → PyData
  | none => .none
  | some v => .str (tx v)
def kvD (kv : KV) : PyData := .tuple [.str (tx kv.1), optDS kv.2]
def psD (ps : List KV) : PyData := .list (ps.map kvD)
def llD (ls : List (List KV)) : PyData := .list (ls.map psD)
theorem optS_AD {σ : Sto} : ∀ v, AD σ (optS v) (optDS v)
  | none => .none
  | some v => .str _
theorem ads_map {σ : Sto} {α : Type} {f : α → AV} {g : α → PyData} : ∀ {l : List α}, (∀ x ∈ l, AD σ (f x) (g x)) → ADs σ (l.map f) (l.map g)
  | [], _ => .nil
  | x :: l, h => .cons (h x (.head _)) (ads_map fun y hy => h y (.tail _ hy))
theorem ll_AD {R : Addr} {as : LL} {l σ : Sto} (h : LLMem as l) (hR : (R, AO.list (as.map fun y => .ref y.1)) ∈ l) (hs : ∀ p ∈ l, p ∈ σ) : AD σ (.ref R) (llD (LLv as)) := by
  unfold llD LLv
  rw [List.map_map]
  refine .list (hs _ hR) (ads_map fun y hy => ?_)
  show AD σ (.ref y.1) (psD (y.2.map (·.2)))
  unfold psD
  rw [List.map_map]
  refine .list (hs _ (h y hy).1) (ads_map fun z hz => ?_)
  exact .tuple (hs _ ((h y hy).2 z hz)) (.cons (.str _) (.cons (optS_AD _) .nil))
mutual
theorem eqv_self : ∀ d : PyData, d.canLay0 = true → PyData.eqv d d = true
  | .none, _ => by simp only [PyData.eqv]
  | .bool b, _ => by simp only [PyData.eqv]; simp
  | .int i, _ => by simp only [PyData.eqv]; simp
  | .str x, _ => by simp only [PyData.eqv]; simp
  | .list xs, h => by simp only [PyData.eqv]; exact eqvAll_self xs (by simpa only [PyData.canLay0] using h)
  | .tuple xs, h => by simp only [PyData.eqv]; exact eqvAll_self xs (by simpa only [PyData.canLay0] using h)
  | .dict _, h => by simp only [PyData.canLay0] at h; cases h
theorem eqvAll_self : ∀ ds : List PyData, PyData.canLayAll0 ds = true → PyData.eqvAll ds ds = true
  | [], _ => by simp only [PyData.eqvAll]
  | d :: ds, h => by
    simp only [PyData.canLayAll0, Bool.and_eq_true] at h
    simp only [PyData.eqvAll, Bool.and_eq_true]
    exact ⟨eqv_self d h.1, eqvAll_self ds h.2⟩
end
def cpOk (l : List Nat) : Prop := ∀ c ∈ l, c < 0x110000
def kvCp (kv : KV) : Prop := cpOk kv.1 ∧ ∀ v, kv.2 = some v → cpOk v
theorem layAll_map {α : Type} {g : α → PyData} : ∀ {l : List α}, (∀ x ∈ l, (g x).canLay0 = true) → PyData.canLayAll0 (l.map g) = true
  | [], _ => by simp only [List.map_nil, PyData.canLayAll0]
  | x :: l, h => by
    simp only [List.map_cons, PyData.canLayAll0, Bool.and_eq_true]
    exact ⟨h x (.head _), layAll_map fun y hy => h y (.tail _ hy)⟩
theorem kv_lay {kv : KV} (h : kvCp kv) : (kvD kv).canLay0 = true := by
  unfold kvD
  simp only [PyData.canLay0, PyData.canLayAll0, Bool.and_eq_true, Bool.and_true]
  refine ⟨strOk_tx h.1, ?_⟩
  cases hv : kv.2 with
  | none => simp only [optDS, PyData.canLay0]
  | some v => simp only [optDS, PyData.canLay0]; exact strOk_tx (h.2 v hv)
theorem ll_lay {ls : List (List KV)} (h : ∀ l ∈ ls, ∀ kv ∈ l, kvCp kv) : (llD ls).canLay0 = true := by
  unfold llD
  simp only [PyData.canLay0]
  refine layAll_map fun l hl => ?_
  unfold psD
  simp only [PyData.canLay0]
  exact layAll_map fun kv hkv => kv_lay (h l hl kv hkv)
theorem depthAll_map {α : Type} {g : α → PyData} {k : Nat} : ∀ {l : List α}, (∀ x ∈ l, (g x).depth ≤ k) → PyData.depthAll (l.map g) ≤ k
  | [], _ => by simp only [List.map_nil, PyData.depthAll]; omega
  | x :: l, h => by
    have h1 := h x (.head _)
    have h2 := depthAll_map (l := l) fun y hy => h y (.tail _ hy)
    simp only [List.map_cons, PyData.depthAll]
    omega
theorem kv_depth (kv : KV) : (kvD kv).depth ≤ 2 := by
  unfold kvD
  cases kv.2 <;> simp only [optDS, PyData.depth, PyData.depthAll] <;> decide
theorem ll_depth (ls : List (List KV)) : (llD ls).depth ≤ 5 := by
  unfold llD
  simp only [PyData.depth]
  have := depthAll_map (g := psD) (k := 3) (l := ls) fun l _ => by
    unfold psD
    simp only [PyData.depth]
    have := depthAll_map (g := kvD) (k := 2) (l := l) fun kv _ => kv_depth kv
    omega
  omega
theorem esc_cp {v : List Nat} (h : cpOk v) : cpOk (escL v) := by
  intro c hc
  unfold escL at hc
  obtain ⟨x, hx, hc⟩ := List.mem_flatMap.mp hc
  unfold esc1 at hc
  split at hc
  · rcases List.mem_cons.mp hc with rfl | hc
    · decide
    · rw [List.mem_singleton.mp hc]; exact h x hx
  · rw [List.mem_singleton.mp hc]; exact h x hx
theorem jv_cp {v : List Nat} (h : cpOk v) : cpOk (jv v) := by
  unfold jv
  split
  · exact h
  · intro c hc
    rcases List.mem_cons.mp hc with rfl | hc
    · decide
    · rcases List.mem_append.mp hc with hc | hc
      · exact esc_cp h c hc
      · rw [List.mem_singleton.mp hc]; decide
end Mine
namespace Mine
open PySem PySem.W PySem.Spec PySem.Calls PyProof.Rows
local macro_rules | `(tactic| walk_at "lk") => `(tactic| first | (with_reducible exact lk_here) | ((with_reducible refine' lk_there ?hne ?hrr); (case hne => decide); (case hrr => walk_at "lk")))
local macro_rules | `(tactic| walk_at "rs") => `(tactic| first | (with_reducible exact rs_here) | (with_reducible exact rs_nil) | ((with_reducible refine' rs_there ?hne ?hrr); (case hne => decide); (case hrr => walk_at "rs")))
local macro_rules | `(tactic| walk_at "kd") => `(tactic| with_reducible assumption)
local macro_rules | `(tactic| walk_at "kx") => `(tactic| first | with_reducible assumption | with_unfolding_all rfl)
local macro_rules | `(tactic| walk_at "ur") => `(tactic| with_unfolding_all rfl)
local macro_rules | `(tactic| walk_at "iur") => `(tactic| (intros; with_unfolding_all rfl))
local macro_rules | `(tactic| walk_at "pk") => `(tactic| first | with_reducible exact Pick.head | ((with_reducible refine' Pick.tail ?hrr); (case hrr => walk_at "pk")))
local macro_rules | `(tactic| walk_at "mm") => `(tactic| first | with_reducible assumption | with_reducible exact List.mem_cons_self | ((with_reducible refine' List.mem_cons_of_mem _ ?hrr); (case hrr => walk_at "mm")))
local macro_rules | `(tactic| walk_at "sb") => `(tactic| first | with_reducible exact SubS.refl | with_reducible assumption | with_reducible exact SubS.nil | ((fail_if_success (with_reducible show SubS (_ :: _) _)); (with_reducible refine SubS.drop ?_); walk_at "sb") | ((with_reducible refine' SubS.pick ?hpk ?hrr); (case hpk => walk_at "pk"); (case hrr => walk_at "sb")))
local macro_rules | `(tactic| walk_at "ls") => `(tactic| first | with_reducible exact LocSub.nil | ((with_reducible refine' LocSub.cons ?hlc ?hrr); (case hlc => walk_at "lk"); (case hrr => walk_at "ls")))
local macro_rules | `(tactic| walk_at "sz") => `(tactic| first | assumption | omega | (simp only [List.length_append, List.length_cons, List.length_nil, List.length_map, List.length_take, List.length_drop, List.length_replicate]; omega) | (rw [sizeLine_eq]; first | omega | (simp only [List.length_append, List.length_cons, List.length_nil, List.length_map, List.length_take, List.length_drop, List.length_replicate]; omega)))
local macro_rules | `(tactic| walk_at "jz") => `(tactic| first | assumption | (simp only [List.length_cons, List.length_nil, Nat.mul_zero, Nat.add_zero, Nat.mul_one]; omega))
local macro_rules | `(tactic| walk_at "bb") => `(tactic| with_reducible first | exact bb_len | exact bb_range | exact bb_str | exact bb_int | exact bb_max | exact bb_abs | exact bb_min | exact bb_sum | exact bb_sorted | exact bb_chr | exact bb_divmod | exact bb_isinstance | exact bb_bool)
local macro_rules | `(tactic| walk_at "nm") => `(tactic| first
  | ((with_reducible refine' xn_local ?hk ?hx ?hl ?_ ?hd); (case hk => walk_at "kd"); (case hx => walk_at "kd"); (case hl => walk_at "lk"); (case hd => decide))
  | ((with_reducible refine' xn_globR ?G ?hk ?hx ?e ?_ ?hd); (case G => walk_at "kd"); (case hk => walk_at "kd"); (case hx => walk_at "kd"); (case e => walk_at "kd"); (case hd => decide))
  | ((with_reducible refine' xn_builtV ?G ?hk ?hx ?e ?hv ?_ ?hd ?hn); (case G => walk_at "kd"); (case hk => walk_at "kd"); (case hx => walk_at "kd"); (case e => walk_at "kd"); (case hv => walk_at "bb"); (case hd => decide); (case hn => decide))
  | ((with_reducible refine' kn_local ?hk ?hx ?hm ?hl ?_ ?hd); (case hk => exact rfl); (case hx => exact rfl); (case hm => walk_at "mm"); (case hl => walk_at "lk"); (case hd => decide)))
local macro_rules | `(tactic| walk_at "st") => `(tactic| first
  | ((with_reducible refine' xs_local ?hk ?hx ?hr ?_); (case hk => walk_at "kd"); (case hx => walk_at "kd"); (case hr => walk_at "rs"))
  | ((with_reducible refine' ks_local ?hk ?hx ?hp ?hr ?_); (case hk => exact rfl); (case hx => exact rfl); (case hp => walk_at "pk"); (case hr => walk_at "rs")))
local macro_rules | `(tactic| walk_at "stm") => `(tactic| first
  | ((fail_if_success (with_reducible show AW RF _ _ (execs (Stmt.While _ _ _ _ :: _) _) _ _ _)); (fail_if_success (with_reducible show AW RF _ _ (execs (Stmt.For _ _ _ _ _ :: _) _) _ _ _)); with_reducible refine ex_cons ?_)
  | with_reducible refine ex_nil ?_
  | ((with_reducible refine' ex_assign ?_ ?hsw); (case hsw => walk_at "ur"))
  | with_reducible refine ex_if ?_
  | with_reducible refine ex_return ?_
  | ((with_reducible refine' ex_exprX ?hk ?_ ?hsw); (case hk => walk_at "kd"); (case hsw => walk_at "ur"))
  | with_reducible refine ex_while ?_
  | ((with_reducible refine' ex_for ?_ ?hf); (case hf => walk_at "iur")))
local macro_rules | `(tactic| walk_at "tru") => `(tactic| first
  | with_reducible refine it_cmp ?_ rfl
  | with_reducible refine it_not ?_
  | with_reducible refine it_bool ?_
  | with_reducible refine at_and ?_
  | with_reducible refine at_nil ?_
  | ((with_reducible refine' it_plain ?_ ?hp); (case hp => walk_at "ur")))
local macro_rules | `(tactic| walk_at "evl") => `(tactic| first
  | walk_at "nm"
  | with_reducible refine aw_int ?_
  | with_reducible refine aw_strx (by with_reducible assumption) ?_
  | with_reducible refine aw_str ?_
  | with_reducible refine aw_BinOp ?_
  | ((with_reducible refine' aw_Method (pl := _) ?_ ?he); (case he => walk_at "ur"))
  | ((with_reducible refine' aw_Call ?_ ?he); (case he => walk_at "ur"))
  | with_reducible refine aw_SubSlice ?_
  | with_reducible refine aw_Subscript ?_
  | with_reducible refine aw_UnaryOp ?_
  | with_reducible refine aw_bool ?_
  | with_reducible refine aw_none ?_
  | with_reducible refine aw_List ?_
  | with_reducible refine aw_Tuple ?_
  | ((with_reducible refine' aw_ListComp ?hclos ?hcell ?hkind ?hnames ?_ ?hfs); (case hclos => with_unfolding_all rfl); (case hcell => decide); (case hkind => with_unfolding_all rfl); (case hnames => decide); (case hfs => walk_at "iur")))
local macro_rules | `(tactic| walk_at "cwt") => `(tactic| first
  | ((with_reducible refine' cw_me (by first | exact RV_ref _ | assumption) ?_ ?he ?hp); (case he => walk_at "ur"); (case hp => walk_at "ur"))
  | ((with_reducible refine' cw_fn ?_ ?he ?hp); (case he => walk_at "ur"); (case hp => walk_at "ur"))
  | with_reducible refine cw_me0 (by first | exact RV_ref _ | assumption) ?_)
local macro_rules | `(tactic| walk_at "mth") => `(tactic| first
  | with_reducible refine m_startswith ?_
  | with_reducible refine m_endswith ?_
  | with_reducible refine m_join ?_
  | ((with_reducible refine' m_append ?hm ?_); (case hm => walk_at "mm")))
local macro_rules | `(tactic| walk_at "cal") => `(tactic| first
  | with_reducible refine t_starts ?_
  | with_reducible refine t_ends ?_
  | ((with_reducible refine' b_len_list ?hm ?hz ?_); (case hm => walk_at "mm"); (case hz => walk_at "sz"))
  | ((with_reducible refine' b_append ?hp ?hz ?_); (case hp => walk_at "pk"); (case hz => walk_at "sz"))
  | ((with_reducible refine' t_join ?hm ?hz ?_); (case hm => walk_at "mm"); (case hz => walk_at "jz"))
  | with_reducible refine b_range1 ?_
  | with_reducible refine b_abs ?_)
local macro_rules | `(tactic| walk_at "bin") => `(tactic| first
  | with_reducible refine c_lt_int ?_
  | with_reducible refine c_ge_int ?_
  | with_reducible refine t_eq ?_
  | with_reducible refine c_gt_int ?_
  | ((with_reducible refine' t_add ?hz ?_); (case hz => walk_at "sz"))
  | ((with_reducible refine' o_modP ?hb ?_); (case hb => first | decide | omega))
  | ((with_reducible refine' o_divP ?hb ?hp ?_); (case hb => first | decide | omega); (case hp => decide))
  | ((with_reducible refine' o_pow_int ?h0 ?h1 ?h2 ?_); (case h0 => decide); (case h1 => decide); (case h2 => decide)))
local macro_rules | `(tactic| walk_at "slc") => `(tactic| first
  | ((with_reducible refine' t_from ?hz ?hsl ?ht ?h0 ?_); (case hsl => walk_at "iur"); (case ht => walk_at "iur"); (case hz => walk_at "sz"); (case h0 => omega))
  | ((with_reducible refine' t_to ?hz ?hsl ?ht ?h0 ?_); (case hsl => walk_at "iur"); (case ht => walk_at "iur"); (case hz => walk_at "sz"); (case h0 => omega))
  | ((with_reducible refine' t_to_neg ?hz ?hsl ?ht ?h0 ?_); (case hsl => walk_at "iur"); (case ht => walk_at "iur"); (case hz => walk_at "sz"); (case h0 => omega))
  | ((with_reducible refine' sl_list ?hm ?hx ?hl ?hu ?_ ?hsl); (case hsl => walk_at "iur"); (case hm => walk_at "mm"); (case hx => walk_at "sz"); (case hl => exact rfl); (case hu => exact rfl)))
local macro_rules | `(tactic| walk_at "itm") => `(tactic| first
  | ((with_reducible refine' t_item ?h0 ?h1 ?hz ?_ ?hsl ?ht); (case hsl => walk_at "iur"); (case ht => walk_at "iur"); (case hz => walk_at "sz"); (case h0 => omega); (case h1 => omega)))
local macro_rules | `(tactic| walk_at "aw") => `(tactic| first
  | ((with_reducible show AW RV _ _ (eval _ _) _ _ _); walk_at "evl")
  | ((with_reducible show AW RF _ _ _ _ _ _); walk_at "stm")
  | ((with_reducible show AW Eq _ _ _ _ _ _); walk_at "tru")
  | ((with_reducible show AW RVs _ _ _ _ _ _); first | with_reducible refine sp_cons ?_ rfl | with_reducible refine sp_nil ?_)
  | ((with_reducible show AW RV _ _ (callWith _ _ _ _ _) _ _ _); walk_at "cwt")
  | ((with_reducible show AW RV _ _ (evalPart _ _) _ _ _); first | with_reducible refine ep_none ?_ | with_reducible refine ep_some ?_)
  | ((with_reducible show ASt _ _ _ _ _ _ _ _); walk_at "st")
  | ((with_reducible show A2 _ _ (binaryOp _) _ _ _ _ _); walk_at "bin")
  | ((with_reducible show A2 _ _ (compareOp _) _ _ _ _ _); walk_at "bin")
  | ((with_reducible show A2 _ _ (subscriptTail _ _) _ _ _ _ _); walk_at "itm")
  | ((with_reducible show ACall _ _ _ _ _ _ _); walk_at "cal")
  | ((with_reducible show AMeth _ _ _ _ _ _ _ _); walk_at "mth")
  | ((with_reducible show ATr _ _ _ _ _ _); first | with_reducible refine tr_bool ?_)
  | ((with_reducible show A1 _ _ _ _ _ _ _); first | with_reducible refine u_neg_int ?_)
  | ((with_reducible show ASl _ _ _ _ _ _ _ _ _ _); walk_at "slc")
  | ((with_reducible show Kp _ _ _ ∧ _); first | with_reducible refine ⟨kp_builtin, ?_⟩ | with_reducible refine ⟨kp_type, ?_⟩ | with_reducible refine ⟨kp_K (by assumption) (by assumption), ?_⟩)
  | ((with_reducible show ite _ _ _); first | refine ite_pos (by decide) ?_ | refine ite_neg (by decide) ?_ | refine ite_d (fun _ => ?_) (fun _ => ?_) | refine ite_nd (fun _ => ?_) (fun _ => ?_) | split)
  | with_reducible refine cf_one ?_
  | with_reducible refine cv_val ?_
  | with_reducible refine cv_ref ?_
  | ((with_reducible show (_ ≤ sizeLine) ∧ _); refine ⟨by walk_at "sz", ?_⟩)
  | ((with_reducible show AAs _ _ _ _ _ _ _ _ _); with_reducible refine as_name ?_)
  | ((with_reducible show ATests _ _ _ _ _ _ _); first | with_reducible refine te_nil ?_ | with_reducible refine te_one ?_)
  | (with_reducible intro _)
  | (dsimp only [AF.val, Turn]))
local macro_rules | `(tactic| walk_at "mth") => `(tactic| first
  | ((with_reducible refine' m_search ?G ?P ?_); (case G => walk_at "kd"); (case P => walk_at "kd"))
  | ((with_reducible refine' m_group ?hm ?_); (case hm => walk_at "mm")))
local macro_rules | `(tactic| walk_at "bin") => `(tactic| first
  | with_reducible refine c_isnot_none ?_)
local macro_rules | `(tactic| walk_at "aw") => `(tactic| ((with_reducible show ATr _ _ _ _ _ _); first
  | with_reducible refine tr_none ?_
  | ((with_reducible refine' tr_str ?hz ?_); (case hz => walk_at "sz"))
  | ((with_reducible refine' tr_match ?hm ?_); (case hm => walk_at "mm"))
  | ((with_reducible refine' tr_list ?hm ?hz ?_); (case hm => walk_at "mm"); (case hz => walk_at "sz"))))
local macro_rules | `(tactic| walk_at "stm") => `(tactic| first
  | ((with_reducible refine' ex_assign2 ?hh ?_ ?hsw ?hww); (case hh => walk_at "kd"); (case hsw => walk_at "ur"); (case hww => walk_at "ur")))
local macro_rules | `(tactic| walk_at "aw") => `(tactic| ((with_reducible show ATup2 _ _ _); ((with_reducible refine' atup2 ?hm ?_); (case hm => walk_at "mm"))))
local macro_rules | `(tactic| walk_at "bin") => `(tactic| ((with_reducible refine' o_pow_int ?h0 ?h1 ?h2 ?_); (case h0 => omega); (case h1 => omega); (case h2 => decide)))
local macro_rules | `(tactic| walk_at "mth") => `(tactic| first
  | with_reducible refine m_lstrip ?_
  | with_reducible refine m_rstrip ?_
  | ((with_reducible refine' m_span ?hm ?_); (case hm => walk_at "mm"))
  | ((with_reducible refine' m_fullmatch ?G ?P ?_); (case G => walk_at "kd"); (case P => walk_at "kd"))
  | ((with_reducible refine' m_sub ?G ?P ?_); (case G => walk_at "kd"); (case P => walk_at "kd"))
  | ((with_reducible refine' m_subn ?G ?P ?_); (case G => walk_at "kd"); (case P => walk_at "kd")))
local macro_rules | `(tactic| walk_at "stm") => `(tactic| with_reducible refine ex_assert ?_)
local macro_rules | `(tactic| walk_at "cal") => `(tactic| ((with_reducible refine' b_isi_list_str ?hm ?_); (case hm => walk_at "mm")))
local macro_rules | `(tactic| walk_at "bin") => `(tactic| first
  | ((with_reducible refine' t_fmtq ?hl ?_); (case hl => walk_at "sz")))
local macro_rules | `(tactic| walk_at "aw") => `(tactic| first
  | ((with_reducible show AAs _ _ _ (Expr.Tuple _ _ _) _ _ _ _ _); ((with_reducible refine' as_tup2 ?hh ?hI ?ht ?_); (case hh => walk_at "kd"); (case hI => walk_at "mm"); (case ht => walk_at "mm")))
  | ((with_reducible show AHold _ _); (refine And.intro ?hb ?_; (case hb => first | rfl | decide | simp))))
local macro_rules | `(tactic| walk_at "evl") => `(tactic| first
  | with_reducible refine aw_or ?_
  | with_reducible refine aw_bool1 ?_)
local macro_rules | `(tactic| walk_at "mm") => `(tactic| first
  | with_reducible exact List.mem_append_right _ (by with_reducible assumption)
  | with_reducible exact List.mem_append_left _ (by with_reducible assumption))
local macro_rules | `(tactic| walk_at "evl") => `(tactic| first
  | with_reducible refine aw_JStr ?_
  | with_reducible refine aw_FVs ?_)
local macro_rules | `(tactic| walk_at "aw") => `(tactic| first
  | ((with_reducible show FTx _ _); refine ftx ⟨by walk_at "sz", ?_⟩)
  | ((with_reducible show AJ _ _ _ _ _ _ _ _); first | with_reducible refine aj_cons ?_ | refine aj_nil (by walk_at "sz") ?_))
local macro_rules | `(tactic| walk_at "mm") => `(tactic| first
  | ((with_reducible refine' List.mem_append_right _ ?hrr); (case hrr => walk_at "mm"))
  | ((with_reducible refine' List.mem_append_left _ ?hrr); (case hrr => walk_at "mm")))
abbrev pw := PySem.Challenge.pw_dm0150_07
abbrev jline : Nat := 57
abbrev jcol : Nat := 50
abbrev sline : Nat := 26
abbrev scol : Nat := 49
theorem join_body {C : Cx} {E : Value → Shared → Prop} {f c P pt pe : Addr} {σ τ : Sto} {a : Addr} {as : LL} {n : Nat} {Q : AF → Loc → Sto → Prop}
    (O : C.Ok (envX (Str.ofString "join_header_words") (fnScope pw "join_header_words") C.L f (.ref c) []) (n + 4)) (M : BM C) (H : CodeHd C.h₀ c P)
    (P1 : Pat C.K "HEADER_JOIN_TOKEN_RE" pt jtc 0) (P2 : Pat C.K "HEADER_JOIN_ESCAPE_RE" pe jec 1)
    (hin : LLIn a as σ) (hok : LLOk as) (hτ : TabSt P jline jcol (Str.ofString "join_header_words" ++ ".<locals>." ++ "<lambda>") τ)
    (h : ∀ τ' ρ', TabSt P jline jcol (Str.ofString "join_header_words" ++ ".<locals>." ++ "<lambda>") τ' → Q (.ret (.str (tx (joinW (LLv as))))) ρ' (τ' ++ σ)) :
    AW RF C E (execs (fnBody pw "join_header_words") (envX (Str.ofString "join_header_words") (fnScope pw "join_header_words") C.L f (.ref c) [])) Q [(Str.ofString "lists", .ref a)] (τ ++ σ) := by
  generalize hsc : fnScope pw "join_header_words" = sc at *
  have hk : sc.kind = .function := by subst hsc; kernel_rfl
  have k1 : sc.names.lookup (Str.ofString "lists") = some .local := by subst hsc; kernel_rfl
  have k2 : sc.names.lookup (Str.ofString "headers") = some .local := by subst hsc; kernel_rfl
  have k3 : sc.names.lookup (Str.ofString "pairs") = some .local := by subst hsc; kernel_rfl
  have k4 : sc.names.lookup (Str.ofString "attr") = some .local := by subst hsc; kernel_rfl
  have k5 : sc.names.lookup (Str.ofString "k") = some .local := by subst hsc; kernel_rfl
  have k6 : sc.names.lookup (Str.ofString "v") = some .local := by subst hsc; kernel_rfl
  have k7 : sc.names.lookup (Str.ofString "HEADER_JOIN_TOKEN_RE") = some .globalImplicit := by subst hsc; kernel_rfl
  have k8 : sc.names.lookup (Str.ofString "HEADER_JOIN_ESCAPE_RE") = some .globalImplicit := by subst hsc; kernel_rfl
  clear hsc
  have G := O.gl
  have hh := O.hh
  have z1 := P1.glob
  have z2 := P2.glob
  have q1 : Str.ofString "; " = tx [59, 32] := by decide
  have q2 : Str.ofString ", " = tx [44, 32] := by decide
  have q3 : Str.ofString "\"%s\"" = tx [34, 37, 115, 34] := by decide
  have q4 : Str.ofString "=" = tx [61] := by decide
  refine AW.shrink ?_
  conv =>
    pattern fnBody _ _
    whnf
  repeat' walk_at "aw"
  refine ex_cons ?_
  repeat' walk_at "aw"
  rename_i Hd
  obtain ⟨hin1, hin2⟩ := hin
  obtain ⟨hok1, hok2⟩ := hok
  refine it_list (by walk_at "mm") fun I => ?_
  refine for_indA (fun y => .ref y.1) as (iter_list (a := a) hh) (fun d r ρ σ' => ∃ τ', TabSt P jline jcol (Str.ofString "join_header_words" ++ ".<locals>." ++ "<lambda>") τ' ∧ ρ = [(Str.ofString "lists", .ref a), (Str.ofString "headers", .ref Hd)] ∧ σ' = (Hd, .list ((((LLv d).filter fun ps => !ps.isEmpty).map joinP).map fun l => .str (tx l))) :: (τ' ++ σ)) ?_ ?step1 ?_ ⟨τ, hτ, rfl, rfl⟩
  case step1 =>
    rintro d y r ρ σ' hxs ⟨τ1, hτ1, rfl, rfl⟩
    have hy : y ∈ as := by rw [hxs]; simp
    obtain ⟨hy1, hy2⟩ := hin2 y hy
    obtain ⟨hy3, hy4⟩ := hok2 y hy
    have hdl : d.length ≤ 40 := by
      have := congrArg List.length hxs
      simp at this; omega
    have hhl : ((((LLv d).filter fun ps => !ps.isEmpty).map joinP).map fun l => AV.str (tx l)).length ≤ sizeLine := by
      rw [List.length_map, List.length_map, sizeLine_eq]
      have := List.length_filter_le (fun ps => !ps.isEmpty) (LLv d)
      unfold LLv at this ⊢
      rw [List.length_map] at this
      omega
    generalize hHd : ((((LLv d).filter fun ps => !ps.isEmpty).map joinP).map fun l => AV.str (tx l)) = hds at *
    repeat' walk_at "aw"
    rename_i At
    refine ex_seq (fun ρ σ' => ∃ τ', TabSt P jline jcol (Str.ofString "join_header_words" ++ ".<locals>." ++ "<lambda>") τ' ∧ ρ = [(Str.ofString "lists", .ref a), (Str.ofString "headers", .ref Hd), (Str.ofString "pairs", .ref y.1), (Str.ofString "attr", .ref At)] ∧ σ' = (At, .list ((y.2.map fun z => jp z.2).map fun l => .str (tx l))) :: (I, literO a (d.length + 1)) :: (Hd, .list hds) :: (τ' ++ σ)) ?_ ?_
    · walk_at "aw"
      repeat' walk_at "aw"
      refine it_list (by walk_at "mm") fun I2 => ?_
      refine for_indA (fun z => .ref z.1) y.2 (iter_list (a := y.1) hh) (fun d2 r2 ρ σ' => ∃ τ', TabSt P jline jcol (Str.ofString "join_header_words" ++ ".<locals>." ++ "<lambda>") τ' ∧ ρ = [(Str.ofString "lists", .ref a), (Str.ofString "headers", .ref Hd), (Str.ofString "pairs", .ref y.1), (Str.ofString "attr", .ref At)] ∧ σ' = (At, .list ((d2.map fun z => jp z.2).map fun l => .str (tx l))) :: (I, literO a (d.length + 1)) :: (Hd, .list hds) :: (τ' ++ σ)) ?_ ?step2 ?_ ⟨τ1, hτ1, rfl, rfl⟩
      case step2 =>
        rintro d2 z r2 ρ σ' hxs2 ⟨τ2, hτ2, rfl, rfl⟩
        have hz : z ∈ y.2 := by rw [hxs2]; simp
        have hz1 := hy2 z hz
        obtain ⟨hkl, hvl⟩ := hy4 z hz
        have hd2 : ((d2.map fun z => jp z.2).map fun l => AV.str (tx l)).length ≤ sizeLine := by
          rw [List.length_map, List.length_map, sizeLine_eq]
          have := congrArg List.length hxs2
          simp at this; omega
        obtain ⟨zt, zk, zv⟩ := z
        dsimp only at hz1 hkl hvl ⊢
        have hfin : ∀ (τ3 : Sto) (nk : List Nat), TabSt P jline jcol (Str.ofString "join_header_words" ++ ".<locals>." ++ "<lambda>") τ3 → nk = jp (zk, zv) → ∀ {ρx : Loc} {σx : Sto}, LocSub [(Str.ofString "lists", .ref a), (Str.ofString "headers", .ref Hd), (Str.ofString "pairs", .ref y.1), (Str.ofString "attr", .ref At)] ρx → SubS ((I2, literO y.1 (d2.length + 1)) :: (At, .list (((d2.map fun z => jp z.2).map fun l => AV.str (tx l)) ++ [.str (tx nk)])) :: (I, literO a (d.length + 1)) :: (Hd, .list hds) :: (τ3 ++ σ)) σx →
            ∃ ρ₃ σ₃, (∃ τ', TabSt P jline jcol (Str.ofString "join_header_words" ++ ".<locals>." ++ "<lambda>") τ' ∧ ρ₃ = [(Str.ofString "lists", .ref a), (Str.ofString "headers", .ref Hd), (Str.ofString "pairs", .ref y.1), (Str.ofString "attr", .ref At)] ∧ σ₃ = (At, .list (((d2 ++ [(zt, zk, zv)]).map fun z => jp z.2).map fun l => .str (tx l))) :: (I, literO a (d.length + 1)) :: (Hd, .list hds) :: (τ' ++ σ)) ∧ SubS ((I2, literO y.1 (d2.length + 1)) :: σ₃) σx ∧ LocSub ρ₃ ρx := by
          intro τ3 nk h1 h2 ρx σx h3 h4
          refine ⟨_, _, ⟨τ3, h1, rfl, rfl⟩, ?_, h3⟩
          have : (((d2 ++ [(zt, zk, zv)]).map fun z => jp z.2).map fun l => AV.str (tx l)) = ((d2.map fun z => jp z.2).map fun l => AV.str (tx l)) ++ [.str (tx nk)] := by
            rw [h2]; simp
          rw [this]
          exact h4
        cases zv with
        | none =>
          dsimp only [optS] at hz1
          repeat' walk_at "aw"
          refine hfin τ2 zk hτ2 rfl ?_ ?_
          · walk_at "ls"
          · walk_at "sb"
        | some v =>
          dsimp only [optS] at hz1
          have hvl := hvl v rfl
          have hel := escL_len v
          repeat' walk_at "aw"
          rotate_left
          · rename_i hn; exact absurd rfl hn
          refine b_fullmatch G P1 (by omega) (by decide) (N := v.length * 2 + 10) (by omega) (jt_full v (by omega)) (fun hno => ?_) (fun st x hyes => ?_)
          · have htw : tokW v = false := by
              cases h : tokW v with
              | false => rfl
              | true => rw [h] at hno; cases hno
            iterate 12 walk_at "aw"
            refine aw_lam2 (τ := τ2) (σ₂ := σ) [(I2, literO y.1 (d2.length + 1)), (At, .list ((d2.map fun z => jp z.2).map fun l => .str (tx l))), (I, literO a (d.length + 1)), (Hd, .list hds)] (fun τ' => (I2, literO y.1 (d2.length + 1)) :: (At, .list ((d2.map fun z => jp z.2).map fun l => .str (tx l))) :: (I, literO a (d.length + 1)) :: (Hd, .list hds) :: (τ' ++ σ)) G M H hτ2 (fun _ => rfl) rfl rfl rfl (fun _ => rfl) (by with_unfolding_all rfl) fun lr lc τ3 hτ3 hl1 hl2 => ?_
            clear hl1
            iterate 4 walk_at "aw"
            refine b_sub G P2 (by decide) (N := 20) (by decide) (by omega) (by walk_at "mm") (fun p hp => je_search v p hp) (fun p st x hp hx => by obtain ⟨a1, a2, a3, a4, _⟩ := je_M hx; exact ⟨a1, a2, a3, a4⟩) ?cb (je_sub v v.length 0 rfl (by omega)) (by rw [List.drop_zero]; omega) ?_
            case cb =>
              rintro E' pc xs st x ma ta ⟨p, hp, hx⟩
              obtain ⟨_, _, h5, _, rfl⟩ := je_M hx
              have h5 : st < v.length := h5
              refine b_lam (names := [Str.ofString "_m"]) (n := n + 2) O.in1 (by walk_at "mm") (.tail _ (.tail _ (.tail _ (.tail _ hl2)))) (by intro pm ctv vs hv; match vs, hv with | [v], _ => rfl) (by decide) (by intro y hy; rcases List.mem_singleton.mp hy; kernel_rfl) (by decide +kernel) (by kernel_rfl) (by kernel_rfl) (by kernel_rfl) fun C' E' _ _ _ _ _ O' => ?_
              rw [tok_spans]
              have hk' : ({ kind := .function, names := [(Str.ofString "_m", .local)], isGenerator := false, isCoroutine := false } : Scope).kind = .function := rfl
              have k1' : ({ kind := .function, names := [(Str.ofString "_m", .local)], isGenerator := false, isCoroutine := false } : Scope).names.lookup (Str.ofString "_m") = some .local := by decide
              have q5 : Str.ofString "\\" = tx [92] := by decide
              refine (show AW RV C' E' _ _ [(Str.ofString "_m", .ref ma)] _ from ?_)
              iterate 13 walk_at "aw"
              refine b_group_some (g := 1) (p := st) (e := st + 1) rfl (by walk_at "mm") (by walk_at "mm") (by simp) (by rw [sizeLine_eq]; omega) rfl rfl (take_dropg h5) ?_
              repeat' walk_at "aw"
              · refine ⟨rfl, ?_, ?_⟩
                · walk_at "sb"
                · walk_at "ls"
              · rename_i hne
                exact absurd hne (by simp)
            rw [List.drop_zero]
            repeat' walk_at "aw"
            refine hfin τ3 ([] ++ zk ++ [61] ++ 34 :: (escL v ++ [34])) hτ3 ?_ ?_ ?_
            · unfold jp jv
              simp [htw]
            · walk_at "ls"
            · walk_at "sb"
          · have htw : tokW v = true := by
              cases h : tokW v with
              | true => rfl
              | false => rw [h] at hyes; cases hyes
            refine ⟨fun g hg => absurd hg (by omega), fun ma ta => ?_⟩
            repeat' walk_at "aw"
            refine hfin τ2 ([] ++ zk ++ [61] ++ v) hτ2 ?_ ?_ ?_
            · unfold jp jv
              simp [htw]
            · walk_at "ls"
            · walk_at "sb"
      · rintro d_1 r ρ σ' ⟨τ', _, rfl, rfl⟩
        exact .inl (.tail _ (.tail _ (.tail _ (List.mem_append_right _ hy1))))
      · rintro ρ σ' ⟨τ', h1, rfl, rfl⟩
        repeat' walk_at "aw"
        exact ⟨_, _, ⟨τ', h1, rfl, rfl⟩, SubS.refl, by walk_at "ls"⟩
    · rintro ρ σ' ⟨τ', h1, rfl, rfl⟩
      have hj : ((y.2.map fun z => jp z.2).map List.length).sum + (y.2.map fun z => jp z.2).length * [59, 32].length ≤ 1000000 := by
        have h2 := sum_le (ls := y.2.map fun z => jp z.2) (b := 2200) fun l hl => by
          obtain ⟨kv, hkv, rfl⟩ := List.mem_map.mp hl
          exact jp_len (hy4 kv hkv)
        simp only [List.length_map, List.length_cons, List.length_nil] at h2 ⊢
        omega
      have hjl : ((y.2.map fun z => jp z.2).map fun l => AV.str (tx l)).length ≤ sizeLine := by
        rw [List.length_map, List.length_map, sizeLine_eq]; omega
      repeat' walk_at "aw"
      · rename_i hc _ _
        have hne : y.2 ≠ [] := by
          rintro h0; rw [h0] at hc; simp at hc
        have e : ((((LLv (d ++ [y])).filter fun ps => !ps.isEmpty).map joinP).map fun l => AV.str (tx l)) = hds ++ [.str (tx (joinL [59, 32] (y.2.map fun z => jp z.2)))] := by
          rw [← hHd]
          unfold LLv
          rw [List.map_append, List.filter_append, List.map_append, List.map_append]
          congr 1
          have : (!(y.2.map (·.2)).isEmpty) = true := by
            cases hy : y.2 with
            | nil => exact absurd hy hne
            | cons _ _ => rfl
          simp only [List.map_cons, List.map_nil]
          rw [List.filter_cons_of_pos (by exact this)]
          simp [joinP, Function.comp_def]
        exact ⟨_, _, ⟨τ', h1, rfl, rfl⟩, by rw [e]; walk_at "sb", by walk_at "ls"⟩
      · rename_i hc
        have hne : y.2 = [] := by
          cases hy : y.2 with
          | nil => rfl
          | cons _ _ => rw [hy] at hc; simp at hc
        have e : ((((LLv (d ++ [y])).filter fun ps => !ps.isEmpty).map joinP).map fun l => AV.str (tx l)) = hds := by
          rw [← hHd]
          unfold LLv
          rw [List.map_append, List.filter_append]
          simp [hne]
        exact ⟨_, _, ⟨τ', h1, rfl, rfl⟩, by rw [e]; walk_at "sb", by walk_at "ls"⟩
  · rintro d r ρ σ' ⟨τ', _, rfl, rfl⟩
    exact .inl (.tail _ (List.mem_append_right _ hin1))
  · rintro ρ σ' ⟨τ', h1, rfl, rfl⟩
    have hj : ((((LLv as).filter fun ps => !ps.isEmpty).map joinP).map List.length).sum + (((LLv as).filter fun ps => !ps.isEmpty).map joinP).length * [44, 32].length ≤ 1000000 := by
      have h2 := sum_le (ls := ((LLv as).filter fun ps => !ps.isEmpty).map joinP) (b := 22020) fun l hl => by
        obtain ⟨ps, hps, rfl⟩ := List.mem_map.mp hl
        have hps := (List.mem_filter.mp hps).1
        unfold LLv at hps
        obtain ⟨y, hy, rfl⟩ := List.mem_map.mp hps
        refine joinP_len (fun kv hkv => ?_) (by rw [List.length_map]; exact (hok2 y hy).1)
        obtain ⟨z, hz, rfl⟩ := List.mem_map.mp hkv
        exact (hok2 y hy).2 z hz
      have h3 := List.length_filter_le (fun ps => !ps.isEmpty) (LLv as)
      have h4 : (LLv as).length = as.length := List.length_map _
      simp only [List.length_map, List.length_cons, List.length_nil] at h2 ⊢
      omega
    repeat' walk_at "aw"
    refine ⟨_, _, ?_, LocSub.nil, h τ' _ h1⟩
    walk_at "sb"
theorem join_call {C : Cx} {E : Value → Shared → Prop} {env : Env} {n : Nat} {f c P pt pe a : Addr} {as : LL} {ρ : Loc} {σ τ : Sto} {Q : AV → Loc → Sto → Prop} (O : C.Ok env (n + 5)) (F : FnQ C.K pw "join_header_words" f c) (M : BM C) (H : CodeHd C.h₀ c P)
    (P1 : Pat C.K "HEADER_JOIN_TOKEN_RE" pt jtc 0) (P2 : Pat C.K "HEADER_JOIN_ESCAPE_RE" pe jec 1)
    (hin : LLIn a as σ) (hok : LLOk as) (hτ : TabSt P jline jcol (Str.ofString "join_header_words" ++ ".<locals>." ++ "<lambda>") τ)
    (h : ∀ τ', TabSt P jline jcol (Str.ofString "join_header_words" ++ ".<locals>." ++ "<lambda>") τ' → Q (.str (tx (joinW (LLv as)))) ρ (τ' ++ σ)) :
    ACall C E (.ref f) [.ref a] Q ρ (τ ++ σ) :=
  b_fnQ (names := [Str.ofString "lists"]) O F (by intro qual pm cdv vs hv; match vs, hv with | [v], _ => rfl) (by decide) (by intro y hy; rcases List.mem_singleton.mp hy; kernel_rfl) (by decide +kernel) (by kernel_rfl) (by kernel_rfl) (by kernel_rfl)
    fun C' E' hK _ _ hmg hst O' => join_body O' (M.stays hmg hst) (H.keeps hst) (by rw [hK]; exact P1) (by rw [hK]; exact P2) hin hok hτ fun τ' ρ' h' => h τ' h'
/-! split_header_words -/
theorem unm_body {C : Cx} {E : Value → Shared → Prop} {sc : Scope} {q : Str} {f : Addr} {cd : Value} {σ : Sto} {l : List Nat} {ma ta : Addr} {spn : List Int} {e n : Nat} {Q : AF → Loc → Sto → Prop}
    (hsc : sc = fnScope pw "unmatched") (O : C.Ok (envX q sc C.L f cd []) (n + 1)) (hm : (ma, AO.pred (MObj l ta)) ∈ σ) (ht : (ta, AO.tuple (spn.map .int)) ∈ σ) (h2 : 2 ≤ spn.length) (h0 : spn.getD 0 (-1) = 0) (h1 : spn.getD 1 (-1) = (e : Int)) (hl : l.length ≤ 1000000)
    (h : ∀ ρ', Q (.ret (.str (tx (l.drop e)))) ρ' σ) :
    AW RF C E (execs (fnBody pw "unmatched") (envX q sc C.L f cd [])) Q [(Str.ofString "match", .ref ma)] σ := by
  have hk : sc.kind = .function := by subst hsc; kernel_rfl
  have k1 : sc.names.lookup (Str.ofString "match") = some .local := by subst hsc; kernel_rfl
  have k2 : sc.names.lookup (Str.ofString "start") = some .local := by subst hsc; kernel_rfl
  have k3 : sc.names.lookup (Str.ofString "end") = some .local := by subst hsc; kernel_rfl
  clear hsc
  have G := O.gl
  have hh := O.hh
  have gl : l.length ≤ sizeLine := by rw [sizeLine_eq]; omega
  refine AW.shrink ?_
  conv =>
    pattern fnBody _ _
    whnf
  repeat' walk_at "aw"
  refine b_span0 hm ht h2 fun t => ?_
  rw [h0, h1]
  repeat' walk_at "aw"
  refine aw_mstring ?_
  walk_at "aw"
  refine ⟨ma, ta, l, rfl, by walk_at "mm", ?_⟩
  repeat' walk_at "aw"
  refine aw_mstring ?_
  walk_at "aw"
  refine ⟨ma, ta, l, rfl, by walk_at "mm", ?_⟩
  repeat' walk_at "aw"
  refine ⟨[], σ, by walk_at "sb", LocSub.nil, ?_⟩
  simpa using h _
theorem unm_call {C : Cx} {E : Value → Shared → Prop} {env : Env} {n : Nat} {f ma ta : Addr} {l : List Nat} {spn : List Int} {e : Nat} {ρ : Loc} {σ : Sto} {Q : AV → Loc → Sto → Prop} (O : C.Ok env (n + 2)) (F : Fn C.K pw "unmatched" f)
    (hm : (ma, AO.pred (MObj l ta)) ∈ σ) (ht : (ta, AO.tuple (spn.map .int)) ∈ σ) (h2 : 2 ≤ spn.length) (h0 : spn.getD 0 (-1) = 0) (h1 : spn.getD 1 (-1) = (e : Int)) (hl : l.length ≤ 1000000) (h : Q (.str (tx (l.drop e))) ρ σ) :
    ACall C E (.ref f) [.ref ma] Q ρ σ :=
  b_fn (names := [Str.ofString "match"]) O F (by intro qual pm cdv vs hv; match vs, hv with | [v], _ => rfl) (by decide) (by intro y hy; rcases List.mem_singleton.mp hy; kernel_rfl) (by decide +kernel) (by kernel_rfl) (by kernel_rfl) (by kernel_rfl)
    fun C' qual cdv E' hK _ hw _ _ O' => unm_body rfl O' hm ht h2 h0 h1 hl fun ρ' => h
theorem spl_tok_spans {st b e : Nat} : (spans 1 st (tokX b e)) = [(st : Int), (e : Int), (b : Int), (e : Int)] := rfl
theorem sp_body {C : Cx} {E : Value → Shared → Prop} {f c P fu p1 p2 p3 p4 p5 : Addr} {σ τ : Sto} {a : Addr} {hs : List (List (List KV))} {n : Nat} {Q : AF → Loc → Sto → Prop}
    (O : C.Ok (envX (Str.ofString "split_header_words") (fnScope pw "split_header_words") C.L f (.ref c) []) (n + 4)) (M : BM C) (H : CodeHd C.h₀ c P) (F : Fn C.K pw "unmatched" fu)
    (P1 : Pat C.K "HEADER_TOKEN_RE" p1 tokc 1) (P2 : Pat C.K "HEADER_QUOTED_VALUE_RE" p2 quoc 1) (P3 : Pat C.K "HEADER_VALUE_RE" p3 valc 1) (P4 : Pat C.K "HEADER_ESCAPE_RE" p4 ecc 1) (P5 : Pat C.K "_twin_re_9" p5 twc 0)
    (B : Bn C.K ["isinstance", "str"])
    (hin : (a, AO.list (hs.map fun ls => .str (tx (joinW ls)))) ∈ σ) (hok : hs.length ≤ 12 ∧ ∀ ls ∈ hs, HdOk ls) (hτ : TabSt P sline scol (Str.ofString "split_header_words" ++ ".<locals>." ++ "<lambda>") τ)
    (h : ∀ R as l τ' ρ', LLv as = hs.flatten → LLMem as l → (R, AO.list (as.map fun y => .ref y.1)) ∈ l → TabSt P sline scol (Str.ofString "split_header_words" ++ ".<locals>." ++ "<lambda>") τ' → Q (.ret (.ref R)) ρ' (τ' ++ (l ++ σ))) :
    AW RF C E (execs (fnBody pw "split_header_words") (envX (Str.ofString "split_header_words") (fnScope pw "split_header_words") C.L f (.ref c) [])) Q [(Str.ofString "header_values", .ref a)] (τ ++ σ) := by
  generalize hsc : fnScope pw "split_header_words" = sc at *
  have hk : sc.kind = .function := by subst hsc; kernel_rfl
  have k1 : sc.names.lookup (Str.ofString "header_values") = some .local := by subst hsc; kernel_rfl
  have k2 : sc.names.lookup (Str.ofString "result") = some .local := by subst hsc; kernel_rfl
  have k3 : sc.names.lookup (Str.ofString "text") = some .local := by subst hsc; kernel_rfl
  have k4 : sc.names.lookup (Str.ofString "orig_text") = some .local := by subst hsc; kernel_rfl
  have k5 : sc.names.lookup (Str.ofString "pairs") = some .local := by subst hsc; kernel_rfl
  have k6 : sc.names.lookup (Str.ofString "m") = some .local := by subst hsc; kernel_rfl
  have k7 : sc.names.lookup (Str.ofString "name") = some .local := by subst hsc; kernel_rfl
  have k8 : sc.names.lookup (Str.ofString "value") = some .local := by subst hsc; kernel_rfl
  have k9 : sc.names.lookup (Str.ofString "non_junk") = some .local := by subst hsc; kernel_rfl
  have k10 : sc.names.lookup (Str.ofString "nr_junk_chars") = some .local := by subst hsc; kernel_rfl
  have k11 : sc.names.lookup (Str.ofString "isinstance") = some .globalImplicit := by subst hsc; kernel_rfl
  have k12 : sc.names.lookup (Str.ofString "str") = some .globalImplicit := by subst hsc; kernel_rfl
  have k13 : sc.names.lookup (Str.ofString "HEADER_TOKEN_RE") = some .globalImplicit := by subst hsc; kernel_rfl
  have k14 : sc.names.lookup (Str.ofString "HEADER_QUOTED_VALUE_RE") = some .globalImplicit := by subst hsc; kernel_rfl
  have k15 : sc.names.lookup (Str.ofString "HEADER_VALUE_RE") = some .globalImplicit := by subst hsc; kernel_rfl
  have k16 : sc.names.lookup (Str.ofString "HEADER_ESCAPE_RE") = some .globalImplicit := by subst hsc; kernel_rfl
  have k17 : sc.names.lookup (Str.ofString "_twin_re_9") = some .globalImplicit := by subst hsc; kernel_rfl
  have k18 : sc.names.lookup (Str.ofString "unmatched") = some .globalImplicit := by subst hsc; kernel_rfl
  clear hsc
  have G := O.gl
  have hh := O.hh
  have z1 := P1.glob
  have z2 := P2.glob
  have z3 := P3.glob
  have z4 := P4.glob
  have z5 := P5.glob
  have z6 := F.glob
  have y6 := F.keep
  have b1 : nsIn C.K mainGlobals (Str.ofString "isinstance") = some none := B _ (by simp)
  have b2 : nsIn C.K mainGlobals (Str.ofString "str") = some none := B _ (by simp)
  have q1 : Str.ofString "," = tx [44] := by decide
  have q2 : Str.ofString "" = tx [] := by decide
  refine AW.shrink ?_
  conv =>
    pattern fnBody _ _
    whnf
  repeat' walk_at "aw"
  rename_i R
  refine ex_cons ?_
  repeat' walk_at "aw"
  obtain ⟨hok1, hok2⟩ := hok
  refine it_list (by walk_at "mm") fun I => ?_
  refine for_indA (fun ls => .str (tx (joinW ls))) hs (iter_list (a := a) hh) (fun d r ρ σ' => ∃ τ' l as, TabSt P sline scol (Str.ofString "split_header_words" ++ ".<locals>." ++ "<lambda>") τ' ∧ LLv as = d.flatten ∧ LLMem as l ∧ ρ = [(Str.ofString "header_values", .ref a), (Str.ofString "result", .ref R)] ∧ σ' = (R, .list (as.map fun y => .ref y.1)) :: (τ' ++ (l ++ σ))) ?_ ?step1 ?_ ⟨τ, [], [], hτ, rfl, (fun y hy => nomatch hy), rfl, rfl⟩
  case step1 =>
    rintro d ls r ρ σ' hxs ⟨τ1, l1, as1, hτ1, hv1, hm1, rfl, rfl⟩
    have hls : ls ∈ hs := by rw [hxs]; simp
    obtain ⟨hne, hlen, hall⟩ := hok2 ls hls
    have hdl : d.length ≤ 12 := by
      have := congrArg List.length hxs
      simp at this; omega
    have has1 : as1.length ≤ 144 := by
      rw [← LLv_len, hv1]
      have := flat_len (d := d) (k := 12) fun l hl => (hok2 l (by rw [hxs]; exact List.mem_append_left _ hl)).2.1
      omega
    repeat' walk_at "aw"
    rename_i Pr
    refine ex_seq (fun ρ σ' => ∃ τ' l dn cur Pr, TabSt P sline scol (Str.ofString "split_header_words" ++ ".<locals>." ++ "<lambda>") τ' ∧ cur ≠ [] ∧ cur.length ≤ 10 ∧ dn.length ≤ 200 ∧ LLv dn ++ [cur.map (·.2)] = d.flatten ++ ls ∧ LLMem dn l ∧ PMem cur l ∧ ρ = [(Str.ofString "header_values", .ref a), (Str.ofString "result", .ref R), (Str.ofString "pairs", .ref Pr)] ∧ σ' = (Pr, .list (cur.map fun z => .ref z.1)) :: (R, .list (dn.map fun y => .ref y.1)) :: (I, literO a (d.length + 1)) :: (τ' ++ (l ++ σ))) ?wh ?_
    case wh =>
      walk_at "aw"
      refine AWhile.to (ρ' := [(Str.ofString "header_values", .ref a), (Str.ofString "result", .ref R), (Str.ofString "text", .str (tx (joinW ls))), (Str.ofString "pairs", .ref Pr)]) (σ' := (Pr, .list []) :: (R, .list (as1.map fun y => .ref y.1)) :: (I, literO a (d.length + 1)) :: (τ1 ++ (l1 ++ σ))) ?_ (by walk_at "sb") (by walk_at "ls")
      refine while_ind (fun m ρ σ' => ∃ τ' l dn cur Pr t ps lss b, TabSt P sline scol (Str.ofString "split_header_words" ++ ".<locals>." ++ "<lambda>") τ' ∧ SpJ (d.flatten ++ ls) t ps lss b dn cur l ∧ m = t.length ∧ ρ = [(Str.ofString "header_values", .ref a), (Str.ofString "result", .ref R), (Str.ofString "text", .str (tx t)), (Str.ofString "pairs", .ref Pr)] ∧ σ' = (Pr, .list (cur.map fun z => .ref z.1)) :: (R, .list (dn.map fun y => .ref y.1)) :: (I, literO a (d.length + 1)) :: (τ' ++ (l ++ σ))) (joinW ls).length ?_ ?_
      · rintro m ρ σ' ⟨τ2, l2, dn, cur, Pr, t, ps, lss, b, hτ2, hJ, rfl, rfl, rfl⟩
        have hcl : (cur.map fun z => AV.ref z.1).length ≤ sizeLine := by have := hJ.len; rw [List.length_map, sizeLine_eq]; omega
        have hdl2 : (dn.map fun y => AV.ref y.1).length ≤ sizeLine := by have := hJ.lens; rw [List.length_map, sizeLine_eq]; omega
        cases hJ.left with
        | «at» ws kv ps lss hws =>
          obtain ⟨hkey, hkv⟩ := hJ.pok kv (.head _)
          have hrl : (restB ps lss).length ≤ 300000 := restB_len ⟨by have := hJ.len; simp at this; omega, fun k hk => (hJ.pok k (.tail _ hk)).2⟩ (fun l hl => ⟨(hJ.lok l hl).2.1, fun k hk => ((hJ.lok l hl).2.2 k hk).2⟩) hJ.ls
          have hrh : ∀ c v, restB ps lss = c :: v → c = 59 ∨ c = 44 := fun c v e => restB_head (fun l hl => (hJ.lok l hl).1) e
          have hjl := jp_len hkv
          have hwl : ws.length ≤ 1 := by rcases hws with rfl | rfl <;> simp
          have hwsp : ∀ c ∈ ws, sp c = true := by
            rcases hws with rfl | rfl
            · simp
            · intro c hc; rw [List.mem_singleton.mp hc]; exact sp32
          have hfin : ∀ (τ3 : Sto) (r : Addr), TabSt P sline scol (Str.ofString "split_header_words" ++ ".<locals>." ++ "<lambda>") τ3 → ∀ {ρx : Loc} {σx : Sto}, LocSub [(Str.ofString "header_values", .ref a), (Str.ofString "result", .ref R), (Str.ofString "text", .str (tx (restB ps lss))), (Str.ofString "pairs", .ref Pr)] ρx → SubS ((Pr, .list (cur.map (fun z => .ref z.1) ++ [.ref r])) :: (R, .list (dn.map fun y => .ref y.1)) :: (I, literO a (d.length + 1)) :: (r, .tuple [.str (tx kv.1), optS kv.2]) :: (τ3 ++ (l2 ++ σ))) σx →
              ∃ m ρ₃ σ₃, m < (ws ++ (jp kv ++ restB ps lss)).length ∧ (∃ τ' l dn cur Pr t ps lss b, TabSt P sline scol (Str.ofString "split_header_words" ++ ".<locals>." ++ "<lambda>") τ' ∧ SpJ (d.flatten ++ ls) t ps lss b dn cur l ∧ m = t.length ∧ ρ₃ = [(Str.ofString "header_values", .ref a), (Str.ofString "result", .ref R), (Str.ofString "text", .str (tx t)), (Str.ofString "pairs", .ref Pr)] ∧ σ₃ = (Pr, .list (cur.map fun z => .ref z.1)) :: (R, .list (dn.map fun y => .ref y.1)) :: (I, literO a (d.length + 1)) :: (τ' ++ (l ++ σ))) ∧ SubS σ₃ σx ∧ LocSub ρ₃ ρx := by
            intro τ3 r h1 ρx σx h3 h4
            refine ⟨(restB ps lss).length, _, _, ?_, ⟨τ3, _, dn, _, Pr, _, ps, lss, false, h1, hJ.pair r, rfl, rfl, rfl⟩, ?_, h3⟩
            · have : 1 ≤ (jp kv).length := by
                have : 1 ≤ kv.1.length := by
                  cases hk1 : kv.1 with
                  | nil => exact absurd hk1 hkey.1
                  | cons _ _ => simp
                unfold jp
                split
                · exact this
                · simp; omega
              simp; omega
            · rw [List.map_append]
              exact SubS.trans sub_in h4
          obtain ⟨k, v⟩ := kv
          dsimp only at hkey hfin
          have hkl : k.length ≤ 100 := hkv.1
          generalize hrest : (match v with | none => [] | some v => 61 :: jv v) ++ restB ps lss = rest
          have hrl2 : rest.length ≤ 310000 := by
            rw [← hrest]
            cases v with
            | none => simp; omega
            | some v => have := jv_len v; have := hkv.2 v rfl; simp; omega
          have hte : ws ++ (jp (k, v) ++ restB ps lss) = ws ++ k ++ rest := by
            rw [← hrest]
            unfold jp
            cases v <;> simp
          have hrn : ∀ c v, rest = c :: v → nt c = false := by
            intro c u e
            rw [← hrest] at e
            cases v with
            | none => rcases hrh c u e with rfl | rfl; exact nt59; exact nt44
            | some v => cases e; exact nt61
          have htl : (ws ++ k ++ rest).length ≤ 320000 := by simp; omega
          rw [hte] at hfin ⊢
          have hdrop : (ws ++ k ++ rest).drop (ws.length + k.length) = rest := by
            rw [← List.length_append]; exact List.drop_left
          have hmid : ((ws ++ k ++ rest).take (ws.length + k.length)).drop ws.length = k := by
            rw [← List.length_append, List.take_left, List.drop_left]
          have htz : (ws ++ k ++ rest).length ≤ sizeLine := by rw [sizeLine_eq]; omega
          generalize hT : ws ++ k ++ rest = T at *
          repeat' walk_at "aw"
          rotate_left
          · rename_i hn
            exfalso; apply hn
            rw [← hT]
            intro e
            have := congrArg List.length e
            simp at this
            exact hkey.1 this.2.1
          refine b_search G P1 (by omega) (by decide) (N := (T.length + 1) * 12 + 1) (by omega) (by rw [← hT]; exact tok_yes hwsp hkey.2 hkey.1 hrn (by rw [hT]; omega)) (fun e => by cases e) (fun st x e => ?_)
          cases e
          refine ⟨tok_spOk (by omega), fun ma ta => ?_⟩
          rw [spl_tok_spans]
          repeat' walk_at "aw"
          refine unm_call (e := ws.length + k.length) O F (by walk_at "mm") (by walk_at "mm") (by simp) rfl rfl (by omega) ?_
          rw [hdrop]
          repeat' walk_at "aw"
          refine b_group_some (g := 1) (p := ws.length) (e := ws.length + k.length) rfl (by walk_at "mm") (by walk_at "mm") (by simp) htz rfl rfl hmid ?_
          repeat' walk_at "aw"
          cases v with
          | none =>
            have hrest : restB ps lss = rest := hrest
            have hu : ∀ c u, rest = c :: u → sp c = false ∧ c ≠ 61 := by
              intro c u e
              rcases hrh c u (hrest.trans e) with rfl | rfl
              · exact ⟨sp59, by decide⟩
              · exact ⟨sp44, by decide⟩
            refine b_search G P2 (by omega) (by decide) (N := (rest.length + 1) * 12 + 1) (by omega) (quo_no1 hu (by omega)) (fun _ => ?_) (fun st x e => by cases e)
            repeat' walk_at "aw"
            refine b_search G P3 (by omega) (by decide) (N := (rest.length + 1) * 12 + 1) (by omega) (val_no hu (by omega)) (fun _ => ?_) (fun st x e => by cases e)
            repeat' walk_at "aw"
            rename_i r
            subst hrest
            refine hfin τ2 r hτ2 ?_ ?_
            · walk_at "ls"
            · dsimp only [optS]; walk_at "sb"
          | some v =>
            have hrest : 61 :: jv v ++ restB ps lss = rest := hrest
            have hvl : v.length ≤ 1000 := hkv.2 v rfl
            by_cases htw : tokW v = true
            · have hjv : jv v = v := by unfold jv; rw [if_pos htw]
              rw [hjv] at hrest
              have hrest : 61 :: (v ++ restB ps lss) = rest := hrest
              obtain ⟨hvn, hvc⟩ := tokW_all htw
              have hu : ∀ c u, v ++ restB ps lss = c :: u → sp c = false ∧ c ≠ 34 := by
                intro c u e
                cases v with
                | nil => exact absurd rfl hvn
                | cons c' v' => cases e; exact ⟨(tch_v (hvc _ (.head _))).2.1, (tch_v (hvc _ (.head _))).2.2.2⟩
              have hsl : (rest.take (1 + v.length)).drop 1 = v := by
                rw [← hrest, Nat.add_comm, List.take_succ_cons, List.take_left]; rfl
              have hdr : rest.drop (1 + v.length) = restB ps lss := by
                rw [← hrest, Nat.add_comm, List.drop_succ_cons, List.drop_left]
              refine b_search G P2 (by omega) (by decide) (N := (rest.length + 1) * 22 + 1) (by omega) (by rw [← hrest]; exact quo_no2 hu (by rw [hrest]; omega)) (fun _ => ?_) (fun st x e => by cases e)
              repeat' walk_at "aw"
              refine b_search G P3 (by omega) (by decide) (N := (rest.length + 1) * 22 + 1) (by omega) (by rw [← hrest]; exact val_yes (fun c hc => (tch_v (hvc c hc)).1) (fun c u e => (hu c u e).1) (fun c u e => by rcases hrh c u e with rfl | rfl; exact vch59; exact vch44) (by rw [hrest]; omega)) (fun e => by cases e) (fun st x e => ?_)
              cases e
              refine ⟨tok_spOk (by omega), fun ma2 ta2 => ?_⟩
              rw [spl_tok_spans]
              repeat' walk_at "aw"
              refine unm_call (e := 1 + v.length) O F (by walk_at "mm") (by walk_at "mm") (by simp) rfl rfl (by omega) ?_
              rw [hdr]
              repeat' walk_at "aw"
              refine b_group_some (g := 1) (p := 1) (e := 1 + v.length) rfl (by walk_at "mm") (by walk_at "mm") (by simp) (by rw [sizeLine_eq]; omega) rfl rfl hsl ?_
              repeat' walk_at "aw"
              refine t_rstrip (by rw [sizeLine_eq]; omega) (fun c hc => (tch_v (hvc c hc)).2.1) ?_
              repeat' walk_at "aw"
              rename_i r
              refine hfin τ2 r hτ2 ?_ ?_
              · walk_at "ls"
              · dsimp only [optS]; walk_at "sb"
            · have hjv : jv v = 34 :: (escL v ++ [34]) := by unfold jv; rw [if_neg htw]
              rw [hjv] at hrest
              have hel := escL_len v
              obtain ⟨g0, sg, hsg, hg1, hg2⟩ := esc_segs v
              have hqt : quoT g0 sg (restB ps lss) = rest := by
                rw [← hrest]
                unfold quoT
                rw [hsg]; simp
              have hEl : 2 + g0.length + (segs sg).length = 2 + (escL v).length := by rw [hsg, List.length_append]; omega
              have hsl : (rest.take (2 + g0.length + (segs sg).length)).drop 2 = escL v := by
                rw [← hrest, hEl, Nat.add_comm]
                show ((61 :: 34 :: (escL v ++ [34] ++ restB ps lss)).take ((escL v).length + 2)).drop 2 = _
                rw [List.take_succ_cons, List.take_succ_cons, List.append_assoc, List.take_left]; rfl
              have hdr : rest.drop (2 + g0.length + (segs sg).length + 1) = restB ps lss := by
                rw [← hrest, hEl]
                show (61 :: 34 :: (escL v ++ [34] ++ restB ps lss)).drop _ = _
                rw [show 2 + (escL v).length + 1 = (escL v ++ [34]).length + 1 + 1 by simp; omega, List.drop_succ_cons, List.drop_succ_cons, List.drop_left]
              have hgl : sg.length ≤ 310000 := by
                have : sg.length ≤ (segs sg).length := by
                  clear hsg hg2 hqt hEl hsl hdr
                  induction sg with
                  | nil => simp
                  | cons s sg ih => obtain ⟨c, p⟩ := s; rw [segs_cons]; simp; omega
                omega
              refine b_search G P2 (by omega) (by decide) (N := (rest.length + 1) * (20 * (sg.length + 1) + 102) + 1) ?_ (by rw [← hqt]; exact quo_yes hg1 hg2 (by rw [hqt]; omega)) (fun e => by cases e) (fun st x e => ?_)
              · have h1 : (rest.length + 1) * (20 * (sg.length + 1) + 102) ≤ 400000 * 7000000 := Nat.mul_le_mul (by omega) (by omega)
                omega
              cases e
              refine ⟨tok_spOk (b := 2) (e := 2 + g0.length + (segs sg).length) (by omega), fun ma2 ta2 => ?_⟩
              have hspn : spans 1 0 ⟨((k0 2).set 0 2).set 1 (2 + g0.length + (segs sg).length), 2 + g0.length + (segs sg).length + 1⟩ = [(0 : Int), ((2 + g0.length + (segs sg).length + 1 : Nat) : Int), ((2 : Nat) : Int), ((2 + g0.length + (segs sg).length : Nat) : Int)] := rfl
              rw [hspn]
              repeat' walk_at "aw"
              refine unm_call (e := 2 + g0.length + (segs sg).length + 1) O F (by walk_at "mm") (by walk_at "mm") (by simp) rfl rfl (by omega) ?_
              rw [hdr]
              repeat' walk_at "aw"
              refine b_group_some (g := 1) (p := 2) (e := 2 + g0.length + (segs sg).length) rfl (by walk_at "mm") (by walk_at "mm") (by simp) (by rw [sizeLine_eq]; omega) rfl rfl hsl ?_
              repeat' walk_at "aw"
              refine AW.subS (σ' := (Pr, .list (cur.map fun z => .ref z.1)) :: (R, .list (dn.map fun y => .ref y.1)) :: (I, literO a (d.length + 1)) :: (τ2 ++ (l2 ++ σ))) ?_ (by walk_at "sb")
              refine aw_lam2 (τ := τ2) (σ₂ := l2 ++ σ) [(Pr, .list (cur.map fun z => .ref z.1)), (R, .list (dn.map fun y => .ref y.1)), (I, literO a (d.length + 1))] (fun τ' => (Pr, .list (cur.map fun z => .ref z.1)) :: (R, .list (dn.map fun y => .ref y.1)) :: (I, literO a (d.length + 1)) :: (τ' ++ (l2 ++ σ))) G M H hτ2 (fun _ => rfl) rfl rfl rfl (fun _ => rfl) (by with_unfolding_all rfl) fun lr lc τ3 hτ3 hl1 hl2 => ?_
              clear hl1
              iterate 4 walk_at "aw"
              refine b_sub G P4 (by decide) (N := ((escL v).length + 1) * 6 + 1) (by omega) (by omega) (by walk_at "mm") (fun p hp => ec_search (escL v) p hp) (fun p st x hp hx => by obtain ⟨a1, a2, a3, a4, _⟩ := ec_M hx; exact ⟨a1, a2, a3, a4⟩) ?cb (ec_sub (escL v) v.length v 0 rfl (Nat.zero_le _) List.drop_zero) (by omega) ?_
              case cb =>
                rintro E' pc xs st x ma ta ⟨p, hp, hx⟩
                obtain ⟨_, _, h5, _, rfl⟩ := ec_M hx
                have h5 : st + 2 ≤ (escL v).length := h5
                refine b_lam (names := [Str.ofString "_m"]) (n := n + 2) O.in1 (by walk_at "mm") (.tail _ (.tail _ (.tail _ (.tail _ hl2)))) (by intro pm ctv vs hv; match vs, hv with | [v], _ => rfl) (by decide) (by intro y hy; rcases List.mem_singleton.mp hy; kernel_rfl) (by decide +kernel) (by kernel_rfl) (by kernel_rfl) (by kernel_rfl) fun C' E' _ _ _ _ _ O' => ?_
                rw [tok_spans]
                have hk' : ({ kind := .function, names := [(Str.ofString "_m", .local)], isGenerator := false, isCoroutine := false } : Scope).kind = .function := rfl
                have k1' : ({ kind := .function, names := [(Str.ofString "_m", .local)], isGenerator := false, isCoroutine := false } : Scope).names.lookup (Str.ofString "_m") = some .local := by decide
                refine (show AW RV C' E' _ _ [(Str.ofString "_m", .ref ma)] _ from ?_)
                iterate 13 walk_at "aw"
                refine b_group_some (g := 1) (p := st + 1) (e := st + 2) rfl (by walk_at "mm") (by walk_at "mm") (by simp) (by rw [sizeLine_eq]; omega) rfl rfl (take_dropg (i := st + 1) (by omega)) ?_
                repeat' walk_at "aw"
                · refine ⟨rfl, ?_, ?_⟩
                  · walk_at "sb"
                  · walk_at "ls"
                · rename_i hne
                  exact absurd hne (by simp)
              repeat' walk_at "aw"
              rename_i r
              refine hfin τ3 r hτ3 ?_ ?_
              · walk_at "ls"
              · dsimp only [optS]; walk_at "sb"
        | behind ps lss =>
          have hrl : (restB ps lss).length ≤ 300000 := restB_len ⟨by have := hJ.len; omega, fun k hk => (hJ.pok k hk).2⟩ (fun l hl => ⟨(hJ.lok l hl).2.1, fun k hk => ((hJ.lok l hl).2.2 k hk).2⟩) hJ.ls
          have hcne := hJ.cne rfl
          cases ps with
          | nil =>
            cases lss with
            | nil =>
              rw [restB_nil]
              repeat' walk_at "aw"
              refine ⟨_, _, ⟨τ2, l2, dn, cur, Pr, hτ2, hcne, by have := hJ.len; omega, by have := hJ.lens; omega, by have := hJ.tot; simpa using this, hJ.lmem, hJ.pmem, rfl, rfl⟩, SubS.refl, by walk_at "ls"⟩
            | cons l0 lss =>
              cases l0 with
              | nil => exact absurd rfl (hJ.lok [] (.head _)).1
              | cons kv l0 =>
                rw [restB_l] at hrl ⊢
                generalize hT : jp kv ++ restB l0 lss = T at *
                simp only [List.length_cons] at hrl
                repeat' walk_at "aw"
                rotate_left
                · rename_i hn
                  exact absurd (List.cons_ne_nil _ _) hn
                refine b_search G P1 (by simp; omega) (by decide) (N := ((44 :: 32 :: T).length + 1) * 12 + 1) (by simp; omega) (tok_no (fun c u e => by cases e; exact ⟨nt44, sp44⟩) (by simp) (by simp; omega)) (fun _ => ?_) (fun st x e => by cases e)
                repeat' walk_at "aw"
                refine t_lstrip (by rw [sizeLine_eq]; simp; omega) (fun c u e => by cases e; exact sp44) ?_
                repeat' walk_at "aw"
                rotate_left
                · rename_i hn
                  exact absurd rfl hn
                refine t_lstrip (by rw [sizeLine_eq]; simp; omega) (fun c u e => by cases e; exact sp44) ?_
                repeat' walk_at "aw"
                · rename_i hc Pn
                  refine ⟨(32 :: T).length, _, _, by simp, ⟨τ2, _, _, _, Pn, _, _, _, _, hτ2, hJ.comma Pr, by rw [← hT]; rfl, rfl, rfl⟩, ?_, ?_⟩
                  · rw [List.map_append]
                    refine SubS.trans (σ₂ := (Pn, .list []) :: (R, .list (dn.map (fun y => .ref y.1) ++ [.ref Pr])) :: (I, literO a (d.length + 1)) :: (Pr, .list (cur.map fun z => .ref z.1)) :: (τ2 ++ (l2 ++ σ))) (sub_in (e := (Pr, .list (cur.map fun z => .ref z.1)))) ?_
                    walk_at "sb"
                  · have e : List.drop (Int.toNat 1) (44 :: 32 :: T) = [32] ++ T := rfl
                    rw [e, hT]; walk_at "ls"
                · rename_i hc _
                  cases cur with
                  | nil => exact absurd rfl hcne
                  | cons _ _ => exact absurd rfl hc
          | cons kv ps =>
            rw [restB_p] at hrl ⊢
            generalize hT : jp kv ++ restB ps lss = T at *
            simp only [List.length_cons] at hrl
            have hkey := (hJ.pok kv (.head _)).1
            have hTh : ∀ c u, T = c :: u → nt c = true := by
              intro c u e
              rw [← hT] at e
              obtain ⟨k, v⟩ := kv
              cases k with
              | nil => exact absurd rfl hkey.1
              | cons k0 k =>
                have : jp (k0 :: k, v) = k0 :: jp (k, v) := by unfold jp; cases v <;> rfl
                rw [this] at e
                cases e
                exact hkey.2 _ (.head _)
            have hjc : ∀ c u, T = c :: u → jch c = false := by
              intro c u e
              have h1 := hTh c u e
              unfold nt at h1
              unfold jch
              simp at h1 ⊢
              exact ⟨⟨h1.1.2, h1.2⟩, h1.1.1.2⟩
            repeat' walk_at "aw"
            rotate_left
            · rename_i hn
              exact absurd (List.cons_ne_nil _ _) hn
            refine b_search G P1 (by simp; omega) (by decide) (N := ((59 :: 32 :: T).length + 1) * 12 + 1) (by simp; omega) (tok_no (fun c u e => by cases e; exact ⟨nt59, sp59⟩) (by simp) (by simp; omega)) (fun _ => ?_) (fun st x e => by cases e)
            repeat' walk_at "aw"
            refine t_lstrip (by rw [sizeLine_eq]; simp; omega) (fun c u e => by cases e; exact sp59) ?_
            repeat' walk_at "aw"
            · rename List.take _ _ = _ => hc; exact absurd hc (by simp)
            · refine b_subn (e := 2) (k := k0 0) G P5 (by decide) (N := ((59 :: 32 :: T).length + 1) * 12 + 1) (by simp; omega) (by simp; omega) (by decide) (by simp) (tw_yes (j := [59, 32]) (rest := T) (fun c hc => ?_) hjc (by simp; omega)) ((tw_later (by simp) (by decide)).le (by omega)) fun tn => ?_
              · rcases List.mem_cons.mp hc with rfl | hc
                · decide +kernel
                · rw [List.mem_singleton.mp hc]; decide +kernel
              · repeat' walk_at "aw"
                have e : List.drop 2 (59 :: 32 :: T) = T := rfl
                rw [e]
                refine ⟨T.length, _, _, by simp; omega, ⟨τ2, l2, dn, cur, Pr, T, _, _, _, hτ2, by have := hJ.semi; rw [hT] at this; exact this, rfl, rfl, rfl⟩, by walk_at "sb", by walk_at "ls"⟩
      · cases ls with
        | nil => exact absurd rfl hne
        | cons l0 ls0 =>
          have h0 := hall l0 (.head _)
          cases l0 with
          | nil => exact absurd rfl h0.1
          | cons kv ps =>
            refine ⟨τ1, l1, as1, [], Pr, _, kv :: ps, ls0, true, hτ1, ⟨?_, (fun e => by cases e), (by rw [hv1]; rfl), (by simpa using h0.2.1), ?_, ?_, h0.2.2, (fun l hl => hall l (.tail _ hl)), hm1, (fun z hz => nomatch hz)⟩, rfl, rfl, rfl⟩
            · rw [joinW_cons (fun ps hps => (hall ps hps).1), joinP_cons, List.append_assoc]
              exact Left.at [] kv ps ls0 (.inl rfl)
            · simp at hlen; omega
            · simp at hlen; omega
    rintro ρ σ' ⟨τ', l, dn, cur, Pr', h1, h2, h3, h4, h5, h6, h7, rfl, rfl⟩
    have hcl : (cur.map fun z => AV.ref z.1).length ≤ sizeLine := by rw [List.length_map, sizeLine_eq]; omega
    have hdl2 : (dn.map fun y => AV.ref y.1).length ≤ sizeLine := by rw [List.length_map, sizeLine_eq]; omega
    repeat' walk_at "aw"
    · refine ⟨_, _, ⟨τ', (Pr', .list (cur.map fun z => .ref z.1)) :: l, dn ++ [(Pr', cur)], h1, ?_, ?_, rfl, rfl⟩, ?_, by walk_at "ls"⟩
      · unfold LLv at h5 ⊢
        rw [List.map_append, List.map_cons, List.map_nil, h5]; simp
      · intro y hy
        rcases List.mem_append.mp hy with hy | hy
        · exact ⟨.tail _ (h6 y hy).1, fun z hz => .tail _ ((h6 y hy).2 z hz)⟩
        · rw [List.mem_singleton.mp hy]
          exact ⟨.head _, fun z hz => .tail _ (h7 z hz)⟩
      · rw [List.map_append]
        refine SubS.trans (σ₂ := (I, literO a (d.length + 1)) :: (R, .list (dn.map (fun y => .ref y.1) ++ [.ref Pr'])) :: (Pr', .list (cur.map fun z => .ref z.1)) :: (τ' ++ (l ++ σ))) ⟨[], by rw [List.append_nil]; exact (List.perm_middle.symm.cons _).cons _⟩ (by walk_at "sb")
    · rename_i hc
      cases cur with
      | nil => exact absurd rfl h2
      | cons _ _ => exact absurd rfl hc
  · rintro d r ρ σ' ⟨τ', l, as, _, _, _, rfl, rfl⟩
    exact .inl (.tail _ (List.mem_append_right _ (List.mem_append_right _ hin)))
  · rintro ρ σ' ⟨τ', l, as, h1, h2, h3, rfl, rfl⟩
    repeat' walk_at "aw"
    refine ⟨_, τ' ++ (((R, AO.list (as.map fun y => .ref y.1)) :: l) ++ σ), ?_, LocSub.nil, h R as _ τ' _ h2 (fun y hy => ?_) (.head _) h1⟩
    · exact ⟨[], by rw [List.append_nil]; exact List.perm_middle.symm⟩
    · exact ⟨.tail _ (h3 y hy).1, fun z hz => .tail _ ((h3 y hy).2 z hz)⟩
theorem split_call {C : Cx} {E : Value → Shared → Prop} {env : Env} {n : Nat} {f c P fu p1 p2 p3 p4 p5 a : Addr} {hs : List (List (List KV))} {ρ : Loc} {σ τ : Sto} {Q : AV → Loc → Sto → Prop} (O : C.Ok env (n + 5)) (FS : FnQ C.K pw "split_header_words" f c) (M : BM C) (H : CodeHd C.h₀ c P) (F : Fn C.K pw "unmatched" fu)
    (P1 : Pat C.K "HEADER_TOKEN_RE" p1 tokc 1) (P2 : Pat C.K "HEADER_QUOTED_VALUE_RE" p2 quoc 1) (P3 : Pat C.K "HEADER_VALUE_RE" p3 valc 1) (P4 : Pat C.K "HEADER_ESCAPE_RE" p4 ecc 1) (P5 : Pat C.K "_twin_re_9" p5 twc 0)
    (B : Bn C.K ["isinstance", "str"])
    (hin : (a, AO.list (hs.map fun ls => .str (tx (joinW ls)))) ∈ σ) (hok : hs.length ≤ 12 ∧ ∀ ls ∈ hs, HdOk ls) (hτ : TabSt P sline scol (Str.ofString "split_header_words" ++ ".<locals>." ++ "<lambda>") τ)
    (h : ∀ R as l τ', LLv as = hs.flatten → LLMem as l → (R, AO.list (as.map fun y => .ref y.1)) ∈ l → TabSt P sline scol (Str.ofString "split_header_words" ++ ".<locals>." ++ "<lambda>") τ' → Q (.ref R) ρ (τ' ++ (l ++ σ))) :
    ACall C E (.ref f) [.ref a] Q ρ (τ ++ σ) :=
  b_fnQ (names := [Str.ofString "header_values"]) O FS (by intro qual pm cdv vs hv; match vs, hv with | [v], _ => rfl) (by decide) (by intro y hy; rcases List.mem_singleton.mp hy; kernel_rfl) (by decide +kernel) (by kernel_rfl) (by kernel_rfl) (by kernel_rfl)
    fun C' E' hK _ _ hmg hst O' => sp_body O' (M.stays hmg hst) (H.keeps hst) (by rw [hK]; exact F) (by rw [hK]; exact P1) (by rw [hK]; exact P2) (by rw [hK]; exact P3) (by rw [hK]; exact P4) (by rw [hK]; exact P5) (by rw [hK]; exact B) hin hok hτ fun R as l τ' ρ' h1 h2 h3 h4 => h R as l τ' h1 h2 h3 h4
/-- join_header_words, the store in its own order -/
theorem join_at {C : Cx} {E : Value → Shared → Prop} {env : Env} {n : Nat} {f c P pt pe a : Addr} {as : LL} {ρ : Loc} {σ₁ post τ : Sto} {Q : AV → Loc → Sto → Prop} (pre : Sto) (g : Sto → Sto) (O : C.Ok env (n + 5)) (F : FnQ C.K pw "join_header_words" f c) (M : BM C) (H : CodeHd C.h₀ c P)
    (P1 : Pat C.K "HEADER_JOIN_TOKEN_RE" pt jtc 0) (P2 : Pat C.K "HEADER_JOIN_ESCAPE_RE" pe jec 1)
    (hg : ∀ τ, g τ = pre ++ (τ ++ post)) (hσ : σ₁ = g τ) (hin : LLIn a as (pre ++ post)) (hok : LLOk as) (hτ : TabSt P jline jcol (Str.ofString "join_header_words" ++ ".<locals>." ++ "<lambda>") τ)
    (h : ∀ τ', TabSt P jline jcol (Str.ofString "join_header_words" ++ ".<locals>." ++ "<lambda>") τ' → Q (.str (tx (joinW (LLv as)))) ρ (g τ')) :
    ACall C E (.ref f) [.ref a] Q ρ σ₁ := by
  subst hσ
  refine ACall.frame (Q' := fun v ρ' σ' => v = .str (tx (joinW (LLv as))) ∧ ρ' = ρ ∧ ∃ τ', TabSt P jline jcol (Str.ofString "join_header_words" ++ ".<locals>." ++ "<lambda>") τ' ∧ σ' = τ' ++ (pre ++ post)) (join_call O F M H P1 P2 hin hok hτ fun τ' h' => ⟨rfl, rfl, τ', h', rfl⟩) (by rw [hg]; exact List.perm_append_comm_assoc _ _ _) ?_
  rintro _ _ _ ⟨rfl, rfl, τ', h', rfl⟩
  exact ⟨g τ', .ofPerm (by rw [hg]; exact List.perm_append_comm_assoc _ _ _), h τ' h'⟩
/-- split_header_words, the store in its own order -/
theorem split_at {C : Cx} {E : Value → Shared → Prop} {env : Env} {n : Nat} {f c P fu p1 p2 p3 p4 p5 a : Addr} {hs : List (List (List KV))} {ρ : Loc} {σ₁ post τ : Sto} {Q : AV → Loc → Sto → Prop} (pre : Sto) (g : Sto → Sto → Sto) (O : C.Ok env (n + 5)) (FS : FnQ C.K pw "split_header_words" f c) (M : BM C) (H : CodeHd C.h₀ c P) (F : Fn C.K pw "unmatched" fu)
    (P1 : Pat C.K "HEADER_TOKEN_RE" p1 tokc 1) (P2 : Pat C.K "HEADER_QUOTED_VALUE_RE" p2 quoc 1) (P3 : Pat C.K "HEADER_VALUE_RE" p3 valc 1) (P4 : Pat C.K "HEADER_ESCAPE_RE" p4 ecc 1) (P5 : Pat C.K "_twin_re_9" p5 twc 0)
    (B : Bn C.K ["isinstance", "str"])
    (hg : ∀ τ l, g τ l = pre ++ (τ ++ (l ++ post))) (hσ : σ₁ = g τ []) (hin : (a, AO.list (hs.map fun ls => .str (tx (joinW ls)))) ∈ pre ++ post) (hok : hs.length ≤ 12 ∧ ∀ ls ∈ hs, HdOk ls) (hτ : TabSt P sline scol (Str.ofString "split_header_words" ++ ".<locals>." ++ "<lambda>") τ)
    (h : ∀ R as l τ', LLv as = hs.flatten → LLMem as l → (R, AO.list (as.map fun y => .ref y.1)) ∈ l → TabSt P sline scol (Str.ofString "split_header_words" ++ ".<locals>." ++ "<lambda>") τ' → Q (.ref R) ρ (g τ' l)) :
    ACall C E (.ref f) [.ref a] Q ρ σ₁ := by
  subst hσ
  refine ACall.frame (Q' := fun v ρ' σ' => ∃ R as l τ', v = .ref R ∧ ρ' = ρ ∧ LLv as = hs.flatten ∧ LLMem as l ∧ (R, AO.list (as.map fun y => .ref y.1)) ∈ l ∧ TabSt P sline scol (Str.ofString "split_header_words" ++ ".<locals>." ++ "<lambda>") τ' ∧ σ' = τ' ++ (l ++ (pre ++ post))) (split_call O FS M H F P1 P2 P3 P4 P5 B hin hok hτ fun R as l τ' h1 h2 h3 h4 => ⟨R, as, l, τ', rfl, rfl, h1, h2, h3, h4, rfl⟩) (by rw [hg]; exact List.perm_append_comm_assoc _ _ _) ?_
  rintro _ _ _ ⟨R, as, l, τ', rfl, rfl, h1, h2, h3, h4, rfl⟩
  refine ⟨g τ' l, .ofPerm ?_, h R as l τ' h1 h2 h3 h4⟩
  rw [hg]
  exact (List.perm_append_comm_assoc _ _ _).trans ((List.perm_append_comm_assoc _ _ _).append_left _)
theorem q34 : Str.ofString "\"" = tx [34] := by decide
theorem fin_str {Q : AF → Loc → Sto → Prop} {l l' : List Nat} {ρ : Loc} {σ : Sto} (h : ∀ ρ', Q (.ret (.str (tx l))) ρ' σ) (e : l' = l) : Q (.ret (.str (tx l'))) ρ σ := e ▸ h ρ
theorem toNat1 : Int.toNat 1 = 1 := rfl
theorem len_m1 (n : Nat) : ((n : Int) + -1).toNat = n - 1 := by omega
theorem strip_body {C : Cx} {E : Value → Shared → Prop} {sc : Scope} {q : Str} {f : Addr} {cd : Value} {σ : Sto} {l : List Nat} {Q : AF → Loc → Sto → Prop}
    (hsc : sc = fnScope pw "strip_quotes") (ht : l.length ≤ sizeLine) (h : ∀ ρ', Q (.ret (.str (tx (stripL l)))) ρ' σ) :
    AW RF C E (execs (fnBody pw "strip_quotes") (envX q sc C.L f cd [])) Q [(Str.ofString "text", .str (tx l))] σ := by
  have hk : sc.kind = .function := by subst hsc; kernel_rfl
  have k1 : sc.names.lookup (Str.ofString "text") = some .local := by subst hsc; kernel_rfl
  clear hsc
  have hq := q34
  conv =>
    pattern fnBody _ _
    whnf
  repeat' walk_at "aw"
  all_goals refine fin_str h ?_
  all_goals simp only [decide_eq_true_eq, decide_eq_false_iff_not, toNat1, len_m1, List.length_cons, List.length_nil, Nat.zero_add] at *
  all_goals unfold stripL
  all_goals simp only [*, if_true, if_false, and_self]
theorem strip_call {C : Cx} {E : Value → Shared → Prop} {env : Env} {n : Nat} {f : Addr} {l : List Nat} {ρ : Loc} {σ : Sto} {Q : AV → Loc → Sto → Prop} (O : C.Ok env (n + 1)) (F : Fn C.K pw "strip_quotes" f) (ht : l.length ≤ sizeLine) (h : Q (.str (tx (stripL l))) ρ σ) :
    ACall C E (.ref f) [.str (tx l)] Q ρ σ :=
  b_fn (names := [Str.ofString "text"]) O F (by intro qual pm cdv vs hv; match vs, hv with | [v], _ => rfl) (by decide) (by intro y hy; rcases List.mem_singleton.mp hy; kernel_rfl) (by decide +kernel) (by kernel_rfl) (by kernel_rfl) (by kernel_rfl)
    fun C' qual cdv E' hK _ _ _ _ O' => strip_body rfl ht fun ρ' => h
theorem sum_ones : ∀ ls : List (List Nat), (∀ l ∈ ls, l.length = 1) → (ls.map List.length).sum = ls.length
  | [], _ => rfl
  | l :: r, h => by rw [List.map_cons, List.sum_cons, sum_ones r fun x hx => h x (.tail _ hx), h l (.head _), List.length_cons]; omega
theorem getD_mem {l : List Nat} {i : Nat} (h : i < l.length) : l.getD i 0 ∈ l := by
  rw [List.getD, List.getElem?_eq_getElem h]
  exact List.getElem_mem _
theorem val_body {C : Cx} {E : Value → Shared → Prop} {sc : Scope} {q : Str} {f : Addr} {cd : Value} {σ : Sto} {a : Addr} {ns : List Int} {n : Nat} {Q : AF → Loc → Sto → Prop}
    (hsc : sc = fnScope pw "_law_value") (O : C.Ok (envX q sc C.L f cd []) n) (hb : BaseL C a (ns.map .int)) (hl : ns.length ≤ 63)
    (b1 : nsIn C.K mainGlobals (Str.ofString "abs") = some none) (b2 : nsIn C.K mainGlobals (Str.ofString "len") = some none)
    (h : ∀ l ρ', l.length ≤ 30 → cpOk l → Q (.ret (.str (tx l))) ρ' σ) :
    AW RF C E (execs (fnBody pw "_law_value") (envX q sc C.L f cd [])) Q [(Str.ofString "script", .ref a)] σ := by
  have hk : sc.kind = .function := by subst hsc; kernel_rfl
  have k1 : sc.names.lookup (Str.ofString "script") = some .local := by subst hsc; kernel_rfl
  have k2 : sc.names.lookup (Str.ofString "figures") = some .local := by subst hsc; kernel_rfl
  have k3 : sc.names.lookup (Str.ofString "x") = some .local := by subst hsc; kernel_rfl
  have k4 : sc.names.lookup (Str.ofString "y") = some .local := by subst hsc; kernel_rfl
  have k5 : sc.names.lookup (Str.ofString "abs") = some .globalImplicit := by subst hsc; kernel_rfl
  have k6 : sc.names.lookup (Str.ofString "len") = some .globalImplicit := by subst hsc; kernel_rfl
  clear hsc
  have G := O.gl
  have hh := O.hh
  obtain ⟨M, hM, hML, hMc⟩ : ∃ M, Str.ofString "\"\"\"\\\\\\,;= \na7-Bé" = tx M ∧ M.length = 16 ∧ ∀ c ∈ M, c < 0x110000 := ⟨_, str_tx _, by decide, by decide⟩
  have h00 : Str.ofString "" = tx [] := by decide
  refine AW.shrink ?_
  conv =>
    pattern fnBody _ _
    whnf
  repeat' walk_at "aw"
  rename_i D
  refine ex_cons ?_
  repeat' walk_at "aw"
  refine it_base hb fun I => ?_
  refine for_ind (iter_list (a := a) (xs := ns.map .int) hh) (fun d r ρ σ' => ∃ fs : List Int, (∀ f ∈ fs, 0 ≤ f ∧ f < 16) ∧ fs.length ≤ 30 + 2 * d.length ∧ ρ = [(Str.ofString "script", .ref a), (Str.ofString "figures", .ref D)] ∧ σ' = (D, .list (fs.map .int)) :: σ) ?_ ?step ?_ ?_
  case step =>
    rintro d v r ρ σ' hns ⟨fs, hf, hfl, rfl, rfl⟩
    obtain ⟨x, rfl⟩ := mem_ints hns
    have hd : d.length ≤ 62 := by have := congrArg List.length hns; simp at this; omega
    refine as_name ?_
    walk_at "aw"
    refine ex_seq (fun ρ σ' => ∃ gs : List Int, (∀ f ∈ gs, 0 ≤ f ∧ f < 16) ∧ gs.length ≤ 31 + 2 * d.length ∧ ρ = [(Str.ofString "script", .ref a), (Str.ofString "figures", .ref D), (Str.ofString "x", .int x)] ∧ σ' = (D, .list (gs.map .int)) :: (I, literO a (d.length + 1)) :: σ) ?_ ?_
    · repeat' walk_at "aw"
      · exact ⟨_, _, ⟨fs ++ [0], by simp only [List.mem_append, List.mem_singleton]; rintro f (h | h); exact hf f h; omega, by simp; omega, rfl, rfl⟩, by simp only [List.map_append, List.map_cons, List.map_nil]; walk_at "sb", by walk_at "ls"⟩
      · exact ⟨_, _, ⟨fs, hf, by omega, rfl, rfl⟩, by walk_at "sb", by walk_at "ls"⟩
    · rintro ρ σ' ⟨gs, hg, hgl, rfl, rfl⟩
      repeat' walk_at "aw"
      refine ex_cons ?_
      walk_at "aw"
      have hY : 0 ≤ (if x < 0 then -x else x) % 16 ^ Int.toNat 30 := Int.emod_nonneg _ (by decide)
      generalize (if x < 0 then -x else x) % 16 ^ Int.toNat 30 = Y at *
      refine while_ind (fun m ρ σ' => ∃ (y : Int) (gs : List Int), m = y.toNat ∧ 0 ≤ y ∧ (∀ f ∈ gs, 0 ≤ f ∧ f < 16) ∧ gs.length ≤ 32 + 2 * d.length ∧ ρ = [(Str.ofString "script", .ref a), (Str.ofString "figures", .ref D), (Str.ofString "x", .int x), (Str.ofString "y", .int y)] ∧ σ' = (D, .list (gs.map .int)) :: (I, literO a (d.length + 1)) :: σ) Y.toNat ?_ ?_
      · rintro m ρ σ' ⟨y, gs, rfl, hy, hg, hgl, rfl, rfl⟩
        repeat' walk_at "aw"
        · exact ⟨(y / 16).toNat, _, _, by omega, ⟨y / 16, gs ++ [y / 16 % 16], rfl, by omega, by simp only [List.mem_append, List.mem_singleton]; rintro f (h | h); exact hg f h; omega, by simp at *; omega, rfl, rfl⟩, by simp only [List.map_append, List.map_cons, List.map_nil]; walk_at "sb", by walk_at "ls"⟩
        all_goals exact ⟨_, _, ⟨gs, hg, by simp; omega, rfl, rfl⟩, by walk_at "sb", by walk_at "ls"⟩
      · exact ⟨Y, gs ++ [Y % 16], rfl, hY, by simp only [List.mem_append, List.mem_singleton]; rintro f (h | h); exact hg f h; omega, by simp; omega, rfl, by simp⟩
  · rintro d r ρ σ' ⟨fs, _, _, _, rfl⟩
    exact .inr hb
  · rintro ρ σ' ⟨fs, hf, hfl, rfl, rfl⟩
    simp only [List.length_map] at hfl
    repeat' walk_at "aw"
    rename_i S
    rw [pySl_to _ (by decide), ← List.map_take]
    generalize hgs : fs.take (Int.toNat 30) = gs
    have hg : ∀ f ∈ gs, 0 ≤ f ∧ f < 16 := fun f h => hf f (List.mem_of_mem_take (hgs ▸ h))
    have hgl : gs.length ≤ 30 := by rw [← hgs]; simp; omega
    refine it_list (by walk_at "mm") fun I => ⟨literO S 0, by walk_at "mm", ns_list, fun D' c => ?_⟩
    refine comp_ind (iter_list (a := S) (xs := gs.map .int) hh) (fun d r acc σ' => ∃ ls : List (List Nat), acc = ls.map (fun l => .str (tx l)) ∧ ls.length = d.length ∧ (∀ l ∈ ls, l.length = 1) ∧ (∀ l ∈ ls, cpOk l) ∧ σ' = (S, .list (gs.map .int)) :: (D, .list (fs.map .int)) :: σ) (by walk_at "sz") ?_ ?_ ?step ?_ ?_
    case step =>
      rintro d v r acc σ' hxs ⟨ls, rfl, hll, hl1, hl2, rfl⟩
      obtain ⟨x, rfl, hxm⟩ := mem_ints' hxs
      have hx := hg x hxm
      intro E'
      repeat' walk_at "aw"
      exact ⟨_, _, ⟨ls ++ [[M.getD x.toNat 0]], by simp, by simp [hll], by simp only [List.mem_append, List.mem_singleton]; rintro l (h | h); exact hl1 l h; rw [h]; rfl, by simp only [List.mem_append, List.mem_singleton]; rintro l (h | h); exact hl2 l h; rw [h]; intro c hc; rw [List.mem_singleton.mp hc]; exact hMc _ (getD_mem (by omega)), rfl⟩, by walk_at "sb", by walk_at "ls"⟩
    · rintro d r acc σ' ⟨ls, _, _, _, _, rfl⟩
      exact .inl (by walk_at "mm")
    · rintro d r acc σ' ⟨ls, rfl, hll, _, _, _⟩
      simp [hll]
    · rintro acc ρ₂ σ' ⟨ls, rfl, hll, hl1, hl2, rfl⟩
      refine ⟨_, _, Pick.head, ?_⟩
      rw [List.length_map] at hll
      have hsum := sum_ones ls hl1
      repeat' walk_at "aw"
      refine ⟨[], σ, by walk_at "sb", LocSub.nil, h _ _ ?_ ?_⟩
      · rw [joinL_nil, List.length_flatten]
        omega
      · rw [joinL_nil]
        intro c hc
        obtain ⟨l, hl, hc⟩ := List.mem_flatten.mp hc
        exact hl2 l hl c hc
    · exact ⟨[], rfl, rfl, by simp, by simp, rfl⟩
  · exact ⟨[], by simp, by simp, rfl, rfl⟩
theorem val_call {C : Cx} {E : Value → Shared → Prop} {env : Env} {n : Nat} {f : Addr} {a : Addr} {ns : List Int} {ρ : Loc} {σ : Sto} {Q : AV → Loc → Sto → Prop} (O : C.Ok env (n + 1)) (F : Fn C.K pw "_law_value" f) (hB : Bn C.K ["abs", "len"]) (hb : BaseL C a (ns.map .int)) (hl : ns.length ≤ 63) (h : ∀ l, l.length ≤ 30 → cpOk l → Q (.str (tx l)) ρ σ) :
    ACall C E (.ref f) [.ref a] Q ρ σ :=
  b_fn (names := [Str.ofString "script"]) O F (by intro qual pm cdv vs hv; match vs, hv with | [v], _ => rfl) (by decide) (by intro y hy; rcases List.mem_singleton.mp hy; kernel_rfl) (by decide +kernel) (by kernel_rfl) (by kernel_rfl) (by kernel_rfl)
    fun C' qual cdv E' hK _ _ _ st O' => val_body rfl O' (hb.stays st) hl (hK ▸ hB "abs" (by simp)) (hK ▸ hB "len" (by simp)) fun l ρ' hz hc => h l hz hc
theorem read_body {C : Cx} {E : Value → Shared → Prop} {sc : Scope} {q : Str} {f : Addr} {cd : Value} {σ : Sto} {l : List Nat} {n : Nat} {Q : AF → Loc → Sto → Prop}
    (hsc : sc = fnScope pw "_law_read") (O : C.Ok (envX q sc C.L f cd []) n) (hl : l.length ≤ 10000)
    (h : ∀ t ρ', Q (.ret (.ref t)) ρ' ((t, .tuple [.str (tx (l.foldl rdS ([], false)).1), .bool (l.foldl rdS ([], false)).2]) :: σ)) :
    AW RF C E (execs (fnBody pw "_law_read") (envX q sc C.L f cd [])) Q [(Str.ofString "text", .str (tx l))] σ := by
  have hk : sc.kind = .function := by subst hsc; kernel_rfl
  have k1 : sc.names.lookup (Str.ofString "text") = some .local := by subst hsc; kernel_rfl
  have k2 : sc.names.lookup (Str.ofString "signs") = some .local := by subst hsc; kernel_rfl
  have k3 : sc.names.lookup (Str.ofString "meant") = some .local := by subst hsc; kernel_rfl
  have k4 : sc.names.lookup (Str.ofString "sign") = some .local := by subst hsc; kernel_rfl
  clear hsc
  have G := O.gl
  have hh := O.hh
  have h00 : Str.ofString "" = tx [] := by decide
  have h92 : Str.ofString "\\" = tx [92] := by decide
  refine AW.shrink ?_
  conv =>
    pattern fnBody _ _
    whnf
  repeat' walk_at "aw"
  rename_i D
  refine ex_cons ?_
  repeat' walk_at "aw"
  refine it_str fun I => ?_
  refine for_indA (fun c => .str (tx [c])) l (iter_str (l := l) hh) (fun d r ρ σ' => (d.foldl rdS ([], false)).1.length ≤ d.length ∧ ρ = [(Str.ofString "text", .str (tx l)), (Str.ofString "signs", .ref D), (Str.ofString "meant", .bool (d.foldl rdS ([], false)).2)] ∧ σ' = (D, .list ((d.foldl rdS ([], false)).1.map fun c => .str (tx [c]))) :: σ) (fun _ _ _ _ _ => trivial) ?step ?_ ⟨by simp, rfl, rfl⟩
  case step =>
    rintro d c r ρ σ' hxs ⟨hdl, rfl, rfl⟩
    have hd : d.length ≤ 10000 := by have := congrArg List.length hxs; simp at this; omega
    have hf : (d ++ [c]).foldl rdS ([], false) = rdS (d.foldl rdS ([], false)) c := by rw [List.foldl_append]; rfl
    rw [hf]
    generalize d.foldl rdS ([], false) = S at *
    obtain ⟨acc, b⟩ := S
    dsimp only at hdl ⊢
    have hal : (acc.map fun c => AV.str (tx [c])).length ≤ sizeLine := by rw [List.length_map, sizeLine_eq]; omega
    repeat' walk_at "aw"
    · have e : rdS (acc, b) c = (acc, true) := by
        unfold rdS
        rw [if_pos]
        simp_all
      rw [e]
      exact ⟨_, _, ⟨by simp; omega, rfl, rfl⟩, by walk_at "sb", by walk_at "ls"⟩
    all_goals
      have e : rdS (acc, b) c = (acc ++ [c], false) := by
        unfold rdS
        rw [if_neg]
        simp_all
      rw [e]
      exact ⟨_, _, ⟨by simp; omega, rfl, rfl⟩, by simp only [List.map_append, List.map_cons, List.map_nil]; walk_at "sb", by walk_at "ls"⟩
  · rintro ρ σ' ⟨hdl, rfl, rfl⟩
    generalize l.foldl rdS ([], false) = S at *
    obtain ⟨acc, b⟩ := S
    dsimp only at hdl ⊢
    have hj : ((acc.map fun c => [c]).map List.length).sum + (acc.map fun c => [c]).length * ([] : List Nat).length ≤ 1000000 := by
      rw [sum_ones _ (by intro l hl; obtain ⟨c, _, rfl⟩ := List.mem_map.mp hl; rfl)]
      simp; omega
    have hjn : joinL [] (acc.map fun c => [c]) = acc := by
      rw [joinL_nil]
      clear hdl hj h
      induction acc with
      | nil => rfl
      | cons c acc ih => simpa using ih
    rw [show (acc.map fun c => AV.str (tx [c])) = (acc.map fun c => [c]).map fun l => .str (tx l) by simp [Function.comp_def]]
    repeat' walk_at "aw"
    rw [hjn]
    exact ⟨[], _, by walk_at "sb", LocSub.nil, h _ _⟩
theorem read_call {C : Cx} {E : Value → Shared → Prop} {env : Env} {n : Nat} {f : Addr} {l : List Nat} {ρ : Loc} {σ : Sto} {Q : AV → Loc → Sto → Prop} (O : C.Ok env (n + 1)) (F : Fn C.K pw "_law_read" f) (hl : l.length ≤ 10000)
    (h : ∀ t, Q (.ref t) ρ ((t, .tuple [.str (tx (l.foldl rdS ([], false)).1), .bool (l.foldl rdS ([], false)).2]) :: σ)) :
    ACall C E (.ref f) [.str (tx l)] Q ρ σ :=
  b_fn (names := [Str.ofString "text"]) O F (by intro qual pm cdv vs hv; match vs, hv with | [v], _ => rfl) (by decide) (by intro y hy; rcases List.mem_singleton.mp hy; kernel_rfl) (by decide +kernel) (by kernel_rfl) (by kernel_rfl) (by kernel_rfl)
    fun C' qual cdv E' hK _ _ _ _ O' => read_body rfl O' hl fun t ρ' => h t
theorem law_body {C : Cx} {E : Value → Shared → Prop} {sc : Scope} {q : Str} {f : Addr} {cd : Value} {a f1 f2 f3 fu : Addr} {fj cj Pj fs cs Ps pt pe p1 p2 p3 p4 p5 : Addr} {ns : List Int} {n : Nat}
    (hsc : sc = fnScope pw "law") (O : C.Ok (envX q sc C.L f cd []) (n + 6)) (hb : BaseL C a (ns.map .int)) (hl : ns.length ≤ 63) (M : BM C)
    (F1 : Fn C.K pw "strip_quotes" f1) (F2 : Fn C.K pw "_law_value" f2) (F3 : Fn C.K pw "_law_read" f3) (FJ : FnQ C.K pw "join_header_words" fj cj) (HJ : CodeHd C.h₀ cj Pj) (FS : FnQ C.K pw "split_header_words" fs cs) (HS : CodeHd C.h₀ cs Ps) (FU : Fn C.K pw "unmatched" fu)
    (J1 : Pat C.K "HEADER_JOIN_TOKEN_RE" pt jtc 0) (J2 : Pat C.K "HEADER_JOIN_ESCAPE_RE" pe jec 1)
    (P1 : Pat C.K "HEADER_TOKEN_RE" p1 tokc 1) (P2 : Pat C.K "HEADER_QUOTED_VALUE_RE" p2 quoc 1) (P3 : Pat C.K "HEADER_VALUE_RE" p3 valc 1) (P4 : Pat C.K "HEADER_ESCAPE_RE" p4 ecc 1) (P5 : Pat C.K "_twin_re_9" p5 twc 0)
    (B : Bn C.K ["abs", "len", "range", "isinstance", "str"]) :
    AW RF C E (execs (fnBody pw "law") (envX q sc C.L f cd [])) (LEnd [Pj, Ps]) [(Str.ofString "script", .ref a)] [(Pj, tabO #[]), (Ps, tabO #[])] := by
  have hk : sc.kind = .function := by subst hsc; kernel_rfl
  have k1 : sc.names.lookup (Str.ofString "script") = some .local := by subst hsc; kernel_rfl
  have k2 : sc.names.lookup (Str.ofString "value") = some .local := by subst hsc; kernel_rfl
  have k3 : sc.names.lookup (Str.ofString "turn") = some .local := by subst hsc; kernel_rfl
  have k4 : sc.names.lookup (Str.ofString "written") = some .local := by subst hsc; kernel_rfl
  have k5 : sc.names.lookup (Str.ofString "range") = some .globalImplicit := by subst hsc; kernel_rfl
  have k6 : sc.names.lookup (Str.ofString "_law_value") = some .globalImplicit := by subst hsc; kernel_rfl
  have k7 : sc.names.lookup (Str.ofString "_law_read") = some .globalImplicit := by subst hsc; kernel_rfl
  have k8 : sc.names.lookup (Str.ofString "strip_quotes") = some .globalImplicit := by subst hsc; kernel_rfl
  have k9 : sc.names.lookup (Str.ofString "join_header_words") = some .globalImplicit := by subst hsc; kernel_rfl
  have k10 : sc.names.lookup (Str.ofString "split_header_words") = some .globalImplicit := by subst hsc; kernel_rfl
  clear hsc
  have G := O.gl
  have hh := O.hh
  have z1 := F1.glob
  have z2 := F2.glob
  have z3 := F3.glob
  have z4 := FJ.glob
  have z5 := FS.glob
  have y1 := F1.keep
  have y2 := F2.keep
  have y3 := F3.keep
  have y4 := FJ.keep
  have y5 := FS.keep
  have b2 : nsIn C.K mainGlobals (Str.ofString "range") = some none := B _ (by simp)
  have BV : Bn C.K ["abs", "len"] := fun n hn => B n (by simp at hn ⊢; rcases hn with rfl | rfl <;> simp)
  have BS : Bn C.K ["isinstance", "str"] := fun n hn => B n (by simp at hn ⊢; rcases hn with rfl | rfl <;> simp)
  have q1 : Str.ofString "k" = tx [107] := by decide
  conv =>
    pattern fnBody _ _
    whnf
  repeat' walk_at "aw"
  refine val_call O F2 BV hb hl fun v0 hv0 hc0 => ?_
  repeat' walk_at "aw"
  refine ex_cons ?_
  repeat' walk_at "aw"
  rename_i R
  refine it_rng (n := 3) (by walk_at "mm") (by decide) (by omega) (by omega) (by omega) (by omega) fun I => ?_
  refine for_ind (iter_rng (x := 0) (n := 3) hh) (fun d r ρ σ' => ∃ v τj τs, v.length + 2 ≤ 32 * 2 ^ d.length ∧ cpOk v ∧ TabSt Pj jline jcol (Str.ofString "join_header_words" ++ ".<locals>." ++ "<lambda>") τj ∧ TabSt Ps sline scol (Str.ofString "split_header_words" ++ ".<locals>." ++ "<lambda>") τs ∧ ρ = [(Str.ofString "script", .ref a), (Str.ofString "value", .str (tx v))] ∧ σ' = (R, rangeO 0 3) :: (τj ++ (τs ++ []))) ?_ ?step1 ?_ ⟨v0, [(Pj, tabO #[])], [(Ps, tabO #[])], by simp; omega, hc0, .inl rfl, .inl rfl, rfl, rfl⟩
  case step1 =>
    rintro d x r ρ σ' hxs ⟨v, τj, τs, hvl, hvc, hτj, hτs, rfl, rfl⟩
    obtain ⟨rfl, hd⟩ := rng_split hxs
    have hpow : 2 ^ d.length ≤ 4 := by
      have : d.length ≤ 2 := by omega
      have := Nat.pow_le_pow_right (n := 2) (by decide) this
      simpa using this
    have hvl2 : v.length ≤ 126 := by omega
    have hjl := jv_len v
    have hjc := jv_cp hvc
    have hrd := read_jv v
    have hsl : (stripL (jv v)).length ≤ (jv v).length := by
      have hB : ∀ l : List Nat, (stripB l).length ≤ l.length := by
        intro l; unfold stripB; split <;> simp
      rw [stripL_eq]
      refine Nat.le_trans (hB _) ?_
      split <;> simp
    have hW : joinW [[([107], some v)]] = 107 :: 61 :: jv v := by
      rw [joinW_cons (by simp), joinP_cons]; simp [tailP, tailL, jp]
    have hHd : HdOk [[([107], some v)]] := by
      refine ⟨by simp, by simp, fun l hl => ?_⟩
      rw [List.mem_singleton.mp hl]
      refine ⟨by simp, by simp, fun kv hkv => ?_⟩
      rw [List.mem_singleton.mp hkv]
      refine ⟨⟨by simp, fun c hc => ?_⟩, by simp, fun v' e => ?_⟩
      · rw [List.mem_singleton.mp hc]; decide +kernel
      · cases e; omega
    repeat' walk_at "aw"
    rename_i rt rl rj
    refine join_at (as := [(rl, [(rt, ([107], some v))])]) (post := τs ++ []) [(rj, .list [.ref rl]), (rl, .list [.ref rt]), (rt, .tuple [.str (tx [107]), .str (tx v)]), (I, rit 0 3 (d.length + 1)), (R, rangeO 0 3)] (fun τ => (rj, .list [.ref rl]) :: (rl, .list [.ref rt]) :: (rt, .tuple [.str (tx [107]), .str (tx v)]) :: (I, rit 0 3 (d.length + 1)) :: (R, rangeO 0 3) :: (τ ++ (τs ++ []))) O FJ M HJ J1 J2 (fun _ => rfl) rfl ?_ ?_ hτj fun τj2 hτj2 => ?_
    · refine ⟨.head _, fun y hy => ?_⟩
      rw [List.mem_singleton.mp hy]
      refine ⟨.tail _ (.head _), fun z hz => ?_⟩
      rw [List.mem_singleton.mp hz]
      exact .tail _ (.tail _ (.head _))
    · refine ⟨by simp, fun y hy => ?_⟩
      rw [List.mem_singleton.mp hy]
      refine ⟨by simp, fun z hz => ?_⟩
      rw [List.mem_singleton.mp hz]
      exact ⟨by simp, fun v' e => by cases e; omega⟩
    rw [show LLv [(rl, [(rt, ([107], some v))])] = [[([107], some v)]] from rfl, hW]
    have hdr : List.drop (Int.toNat 2) (107 :: 61 :: jv v) = jv v := rfl
    repeat' walk_at "aw"
    rw [hdr]
    refine strip_call O F1 (by rw [sizeLine_eq]; omega) ?_
    repeat' walk_at "aw"
    refine read_call O F3 (by omega) fun rr => ?_
    rw [hrd]
    repeat' walk_at "aw"
    rename_i rq
    have hlay : (PyData.tuple [.str (tx v), .bool false]).canLay0 = true := by
      simp only [PyData.canLay0, PyData.canLayAll0, Bool.and_true]
      exact strOk_tx hvc
    refine c_ne_data (da := .tuple [.str (tx v), .bool false]) (db := .tuple [.str (tx v), .bool false]) O (.tuple (show (rr, AO.tuple [AV.str (tx v), AV.bool false]) ∈ _ by walk_at "mm") (.cons (.str _) (.cons (.bool _) .nil))) (.tuple (show (rq, AO.tuple [AV.str (tx v), AV.bool false]) ∈ _ by walk_at "mm") (.cons (.str _) (.cons (.bool _) .nil))) hlay hlay (by simp only [PyData.depth, PyData.depthAll]; decide) ?_
    rw [eqv_self _ hlay]
    repeat' walk_at "aw"
    rename_i rw'
    refine ACall.subS (σ' := (rw', .list [.str (tx (107 :: 61 :: jv v))]) :: (I, rit 0 3 (d.length + 1)) :: (R, rangeO 0 3) :: (τj2 ++ (τs ++ []))) ?_ (by walk_at "sb")
    refine split_at (hs := [[[([107], some v)]]]) (post := []) ((rw', .list [.str (tx (107 :: 61 :: jv v))]) :: (I, rit 0 3 (d.length + 1)) :: (R, rangeO 0 3) :: τj2) (fun τ l => (rw', .list [.str (tx (107 :: 61 :: jv v))]) :: (I, rit 0 3 (d.length + 1)) :: (R, rangeO 0 3) :: (τj2 ++ (τ ++ (l ++ [])))) O FS M HS FU P1 P2 P3 P4 P5 BS (fun _ _ => rfl) rfl ?_ ⟨by simp, fun ls hls => ?_⟩ hτs fun Rs as ll τs2 has hmem hRs hτs2 => ?_
    · simp only [List.map_cons, List.map_nil, hW]
      exact .head _
    · rw [List.mem_singleton.mp hls]; exact hHd
    repeat' walk_at "aw"
    rename_i st sl sj
    have hllay : (llD [[([107], some v)]]).canLay0 = true := ll_lay fun l hl kv hkv => by
      rw [List.mem_singleton.mp hl] at hkv
      rw [List.mem_singleton.mp hkv]
      refine ⟨fun c hc => ?_, fun v' e => by cases e; exact hvc⟩
      rw [List.mem_singleton.mp hc]; decide
    have has' : LLv as = [[([107], some v)]] := by rw [has]; rfl
    have hd1 := ll_AD (σ := (sj, AO.list [AV.ref sl]) :: (sl, AO.list [AV.ref st]) :: (st, AO.tuple [.str (tx [107]), .str (tx v)]) :: (rw', .list [.str (tx (107 :: 61 :: jv v))]) :: (I, rit 0 3 (d.length + 1)) :: (R, rangeO 0 3) :: (τj2 ++ (τs2 ++ (ll ++ [])))) hmem hRs (fun p hp => by walk_at "mm")
    rw [has'] at hd1
    refine c_ne_data (db := llD [[([107], some v)]]) O hd1 (.list (xs := [AV.ref sl]) (by walk_at "mm") (.cons (.list (xs := [AV.ref st]) (by walk_at "mm") (.cons (.tuple (xs := [.str (tx [107]), .str (tx v)]) (by walk_at "mm") (.cons (.str _) (.cons (.str _) .nil))) .nil)) .nil)) hllay hllay (ll_depth _) ?_
    rw [eqv_self _ hllay]
    repeat' walk_at "aw"
    rw [hdr]
    refine ⟨_, _, ⟨jv v, τj2, τs2, ?_, hjc, hτj2, hτs2, rfl, rfl⟩, ?_, by walk_at "ls"⟩
    · rw [List.length_append, List.length_singleton, Nat.pow_succ]; omega
    · refine SubS.trans (σ₂ := (I, rit 0 3 (d.length + 1)) :: (R, rangeO 0 3) :: (τj2 ++ (τs2 ++ (ll ++ [])))) ?_ (by walk_at "sb")
      exact SubS.app (l := [(I, rit 0 3 (d.length + 1)), (R, rangeO 0 3)]) (SubS.app (SubS.app .nil))
  · exact fun _ _ _ _ _ => trivial
  · rintro ρ σ' ⟨v, τj, τs, _, _, hτj, hτs, rfl, rfl⟩
    repeat' walk_at "aw"
    refine ⟨rfl, fun P hP => ?_⟩
    rcases List.mem_cons.mp hP with rfl | hP
    · obtain ⟨ps, hm⟩ := hτj.tab
      exact ⟨ps, by walk_at "mm"⟩
    · obtain ⟨ps, hm⟩ := hτs.tab
      rw [List.mem_singleton.mp hP]
      exact ⟨ps, by walk_at "mm"⟩
end Mine
open PySem PySem.W PyProof.Rows
set_option maxHeartbeats 8000000 in
theorem PySem.Challenge.cw_dm0150_07_holds : PySem.Challenge.rw_dm0150_07.Holds := by
  w_on
  o_law
  k_head
  (case hw => w_witness2)
  k_go0
  rename Frag.In _ _ => KX
  rename Top _ _ _ _ _ (ghostOf _ _) => T
  rename Below _ _ _ _ => B0
  rename Heap.IsList (ghostOf _ _) _ _ => hL
  rename IntsAre _ _ => hI
  rename Fr _ _ _ _ => F
  rename News _ _ _ _ => N0
  rename CodeHd _ (86, 82).1 _ => HJ
  rename CodeHd _ (69, 65).1 _ => HS
  refine Mine.law_wg Mine.pw (fun L => []) (fun L => [(82, Mine.tabO #[]), (65, Mine.tabO #[])]) [82, 65] KX T B0 hL hI F N0 (by kernel_rfl) (by kernel_rfl) (by kernel_rfl) (by with_unfolding_all rfl) ?hs (by decide) (by kernel_rfl) ?law ?hQ
  case hs =>
    intro p hp
    rcases List.mem_cons.mp hp with rfl | hp
    · exact ⟨_, .head _, rfl⟩
    · rw [List.mem_singleton.mp hp]
      exact ⟨_, .tail _ (.head _), rfl⟩
  case law =>
    intro C hK hw h0 M hCL O hb
    refine Mine.law_body (f1 := 94) (f2 := 99) (f3 := 106) (fj := 87) (cj := 86) (Pj := 82) (fs := 70) (cs := 69) (Ps := 65) (fu := 43) (pt := 75) (pe := 80) (p1 := 48) (p2 := 53) (p3 := 58) (p4 := 63) (p5 := 36) rfl O hb (by omega) M ?_ ?_ ?_ ?_ (by rw [h0]; exact HJ) ?_ (by rw [h0]; exact HS) ?_ ?_ ?_ ?_ ?_ ?_ ?_ ?_ ?_
    · rw [hK]; exact Mine.fn_of (by kernel_rfl) (by kernel_rfl) (by kernel_rfl) (by kernel_rfl)
    · rw [hK]; exact Mine.fn_of (by kernel_rfl) (by kernel_rfl) (by kernel_rfl) (by kernel_rfl)
    · rw [hK]; exact Mine.fn_of (by kernel_rfl) (by kernel_rfl) (by kernel_rfl) (by kernel_rfl)
    · rw [hK]; exact Mine.fnq_of (by kernel_rfl) (by kernel_rfl) (by kernel_rfl) (by kernel_rfl)
    · rw [hK]; exact Mine.fnq_of (by kernel_rfl) (by kernel_rfl) (by kernel_rfl) (by kernel_rfl)
    · rw [hK]; exact Mine.fn_of (by kernel_rfl) (by kernel_rfl) (by kernel_rfl) (by kernel_rfl)
    · rw [hK]; exact Mine.pat_of (by kernel_rfl) (by kernel_rfl) (by kernel_rfl) (by kernel_rfl)
    · rw [hK]; exact Mine.pat_of (by kernel_rfl) (by kernel_rfl) (by kernel_rfl) (by kernel_rfl)
    · rw [hK]; exact Mine.pat_of (by kernel_rfl) (by kernel_rfl) (by kernel_rfl) (by kernel_rfl)
    · rw [hK]; exact Mine.pat_of (by kernel_rfl) (by kernel_rfl) (by kernel_rfl) (by kernel_rfl)
    · rw [hK]; exact Mine.pat_of (by kernel_rfl) (by kernel_rfl) (by kernel_rfl) (by kernel_rfl)
    · rw [hK]; exact Mine.pat_of (by kernel_rfl) (by kernel_rfl) (by kernel_rfl) (by kernel_rfl)
    · rw [hK]; exact Mine.pat_of (by kernel_rfl) (by kernel_rfl) (by kernel_rfl) (by kernel_rfl)
    · rw [hK]; exact Mine.bn_cons (by kernel_rfl) (Mine.bn_cons (by kernel_rfl) (Mine.bn_cons (by kernel_rfl) (Mine.bn_cons (by kernel_rfl) (Mine.bn_cons (by kernel_rfl) Mine.bn_nil))))
  case hQ =>
    intro h tk m F' ht
    dsimp only
    refine ⟨?_, ht _ (.head _), ht _ (.tail _ (.head _)), trivial⟩
    wrow_close
