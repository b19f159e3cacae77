import PyProof.Rows.All
import Wide.All
import OpenK.AllK
import Wide.FinOn
import PySem.Challenge.RW_pm0016_01
open PySem PySem.W PyProof.Rows
set_option Elab.async false
/-! The head on its whole road: the kit's tactic takes it by itself when its road in pieces stops; here the first rule stops that road (nothing is proved by it).
The road in pieces makes 18.9 MB of the 32 MiB that the compiled file may have, the whole road 4.2 MB. -/
section
local macro_rules
  | `(({ scope := $_, locals := $_, globals := $_, cells := $_, code := $_, frame := $_ } : $_)) => Lean.Macro.throwError "the whole road"
local macro_rules | `(tactic| k_head) => `(tactic| z_head)
set_option maxRecDepth 100000 in
set_option maxHeartbeats 8000000 in
open_top hd for PySem.Challenge.rw_pm0016_01
end

open PySem PySem.W PyProof.Rows
set_option maxRecDepth 100000
namespace Mine
open PySem PySem.W PySem.Calls PyProof.Rows

def Ext (h h' : Heap) : Prop := ∀ b o, h.get? b = some o → h'.get? b = some o
theorem Ext.refl (h : Heap) : Ext h h := fun _ _ e => e
theorem Ext.trans {a b c : Heap} (x : Ext a b) (y : Ext b c) : Ext a c := fun d o e => y d o (x d o e)

/-- t, run from heap h, ends without a raise in a value and heap of which R holds -/
structure Run {α : Type} (M : Model) (A : Around) (t : Sem α) (h : Heap) (R : α → Heap → Prop) : Prop where
  out : ∀ (s : Shared) (Q : α → Shared → Prop) (E : Value → Shared → Prop), s.heap = h →
    (∀ a h' k, R a h' → Q a { s with heap := h', toks := k }) → wpAny M A t Q E s

/-- the triple -/
def Tr {α : Type} (M : Model) (A : Around) (P : Heap → Prop) (t : Sem α) (R : α → Heap → Prop) : Prop := ∀ h, P h → Run M A t h R

section
variable {M : Model} {A : Around} {α β : Type}
theorem Run.mono {t : Sem α} {h : Heap} {R R' : α → Heap → Prop} (x : Run M A t h R) (k : ∀ a h', R a h' → R' a h') : Run M A t h R' :=
  ⟨fun s Q E hs q => x.out s Q E hs fun a h' n r => q a h' n (k a h' r)⟩
/-- a library rule whose post may be taken at each value and heap -/
theorem Run.bindK {t : Sem α} {h : Heap} {R : α → Heap → Prop} {s : Shared} {Q : α → Shared → Prop} {E : Value → Shared → Prop}
    (x : Run M A t h R) (hs : s.heap = h) (q : ∀ a h' k, R a h' → Q a { s with heap := h', toks := k }) : wpAny M A t Q E s := x.out s Q E hs q
theorem Run.bind {t : Sem α} {f : α → Sem β} {h : Heap} {R : α → Heap → Prop} {R' : β → Heap → Prop}
    (x : Run M A t h R) (y : ∀ a h', R a h' → Run M A (f a) h' R') : Run M A (t >>= f) h R' := by
  refine Run.mk fun s Q E hs q => ?_
  exact wpAny_bind (x.out s _ E hs fun a h' k r => (y a h' r).out _ Q E rfl fun b h'' k' r' => q b h'' k' r')
theorem Run.pure {a : α} {h : Heap} {R : α → Heap → Prop} (r : R a h) : Run M A (pure a) h R := by
  refine Run.mk fun s Q E hs q => ?_
  subst hs
  exact wpAny_pure (q a s.heap s.toks r)
theorem Tr.bind {t : Sem α} {f : α → Sem β} {P : Heap → Prop} {R : α → Heap → Prop} {R' : β → Heap → Prop}
    (x : Tr M A P t R) (y : ∀ a, Tr M A (R a) (f a) R') : Tr M A P (t >>= f) R' := fun h p => (x h p).bind fun a h' r => y a h' r
theorem Tr.mono {t : Sem α} {P : Heap → Prop} {R R' : α → Heap → Prop} (x : Tr M A P t R) (k : ∀ a h', R a h' → R' a h') : Tr M A P t R' :=
  fun h p => (x h p).mono k
theorem Tr.pre {t : Sem α} {P P' : Heap → Prop} {R : α → Heap → Prop} (x : Tr M A P t R) (k : ∀ h, P' h → P h) : Tr M A P' t R :=
  fun h p => x h (k h p)
end

/-! values, told -/
def IsI (n : Int) (v : Value) : Prop := ∃ t, v = .int n t
def IsStr (x : Str) (v : Value) : Prop := ∃ t, v = .str x t
def IsB (b : Bool) (v : Value) : Prop := v = .bool b
def IsV (u v : Value) : Prop := v = u
abbrev IsR (a : Addr) : Value → Prop := IsV (.ref a)

/-- expressions of a value told by V, that leave I standing -/
def Ev (M : Model) (A : Around) (I : Heap → Prop) (env : Env) (e : Expr) (V : Value → Prop) : Prop := Tr M A I (eval e env) fun a h' => V a ∧ I h'
def Tv (M : Model) (A : Around) (I : Heap → Prop) (env : Env) (e : Expr) (b : Bool) : Prop := Tr M A I (isTrue e env (eval e env)) fun c h' => c = b ∧ I h'

section
variable {prog : Program} {w : World} {A : Around} {I : Heap → Prop} {env : Env}


theorem Ev.int {n : Int} {k : Nat} {pos : Pos} : Ev (model prog w) A I env (.Constant (.int n) k pos) (IsI n) := fun h hI => Run.mk fun s Q E hs q => by
  subst hs
  exact wpAny_Constant_int (q _ s.heap _ ⟨⟨_, rfl⟩, hI⟩)
theorem Ev.str {x : Str} {k : Nat} {pos : Pos} : Ev (model prog w) A I env (.Constant (.str x) k pos) (IsStr x) := fun h hI => Run.mk fun s Q E hs q => by
  subst hs
  exact Constant_str (q _ s.heap _ ⟨⟨_, rfl⟩, hI⟩)
theorem Ev.cbool {b : Bool} {k : Nat} {pos : Pos} : Ev (model prog w) A I env (.Constant (.bool b) k pos) (IsB b) := fun h hI => Run.mk fun s Q E hs q => by
  subst hs
  exact Constant_bool (q _ s.heap s.toks ⟨rfl, hI⟩)
theorem Ev.local {x : Str} {pos : Pos} {V : Value → Prop} (hv : ∀ h, I h → ∃ m v, h.Ns env.locals m ∧ m x = some v ∧ V v)
    (hk : env.scope.kind = .function := by rfl) (hl : env.kindOf x = some .local := by rfl) (hd : (x == ("__debug__" : Str)) = false := by decide) :
    Ev (model prog w) A I env (.Name x pos) V := fun h hI => Run.mk fun s Q E hs q => by
  obtain ⟨m, v, hn, hm, hV⟩ := hv h hI
  subst hs
  exact wpAny_Name (wpAny_loadName_local hk hl hn hm (q v s.heap s.toks ⟨hV, hI⟩)) hd
theorem Ev.mono {e : Expr} {V V' : Value → Prop} (x : Ev (model prog w) A I env e V) (k : ∀ v, V v → V' v) : Ev (model prog w) A I env e V' := Tr.mono x fun a _ r => ⟨k a r.1, r.2⟩

/-- two operands, one operation on values -/
theorem Ev.bin {op : Operator} {l r : Expr} {pos : Pos} {V W U : Value → Prop} (x : Ev (model prog w) A I env l V) (y : Ev (model prog w) A I env r W)
    (o : ∀ a b, V a → W b → Tr (model prog w) A I (binaryOp op a b) fun c h' => U c ∧ I h') : Ev (model prog w) A I env (.BinOp l op r pos) U := fun h hI => Run.mk fun s Q E hs q =>
  wpAny_BinOp ((x h hI).bindK hs fun a h1 k1 r1 => (y h1 r1.2).bindK rfl fun b h2 k2 r2 => (o a b r1.1 r2.1 h2 r2.2).bindK rfl fun c h3 k3 r3 => q c h3 k3 r3)
theorem Ev.cmp {op : CmpOp} {l r : Expr} {pos : Pos} {V W U : Value → Prop} (x : Ev (model prog w) A I env l V) (y : Ev (model prog w) A I env r W)
    (o : ∀ a b, V a → W b → Tr (model prog w) A I (compareOp op a b) fun c h' => U c ∧ I h') (hm : behindInMarks op r = false := by with_unfolding_all rfl) : Ev (model prog w) A I env (.Compare l [op] [r] pos) U := fun h hI => Run.mk fun s Q E hs q =>
  wpAny_Compare1 (hm := hm) ((x h hI).bindK hs fun a h1 k1 r1 => (y h1 r1.2).bindK rfl fun b h2 k2 r2 => (o a b r1.1 r2.1 h2 r2.2).bindK rfl fun c h3 k3 r3 => q c h3 k3 r3)

theorem op_of {t : Sem Value} {V : Value → Prop} (k : ∀ (s : Shared) (Q : Value → Shared → Prop) (E : Value → Shared → Prop), (∀ v n, V v → Q v { s with toks := n }) → wpAny (model prog w) A t Q E s) :
    Tr (model prog w) A I t fun c h' => V c ∧ I h' := fun _ hI => Run.mk fun s Q E hs q => by
  subst hs
  exact k s Q E fun v n hv => q v s.heap n ⟨hv, hI⟩
theorem ob_of {t : Sem Bool} {b : Bool} (k : ∀ (s : Shared) (Q : Bool → Shared → Prop) (E : Value → Shared → Prop), Q b s → wpAny (model prog w) A t Q E s) :
    Tr (model prog w) A I t fun c h' => c = b ∧ I h' := fun _ hI => Run.mk fun s Q E hs q => by
  subst hs
  exact k s Q E (q b s.heap s.toks ⟨rfl, hI⟩)

/-! ints -/
abbrev OpI (op : Operator) (f : Int → Int → Int) : Prop := True
theorem op_add {a b : Value} {x y : Int} (ha : IsI x a) (hb : IsI y b) : Tr (model prog w) A I (binaryOp .Add a b) fun c h' => IsI (x + y) c ∧ I h' := by
  obtain ⟨t, rfl⟩ := ha; obtain ⟨u, rfl⟩ := hb
  exact op_of fun s Q E q => add_int (q _ _ ⟨_, rfl⟩)
theorem Ev.add {l r : Expr} {pos : Pos} {x y : Int} (a : Ev (model prog w) A I env l (IsI x)) (b : Ev (model prog w) A I env r (IsI y)) : Ev (model prog w) A I env (.BinOp l .Add r pos) (IsI (x + y)) := a.bin b fun _ _ => op_add
end
end Mine

open PySem PySem.W PyProof.Rows
set_option maxRecDepth 100000
namespace Mine
open PySem PySem.W PySem.Calls PyProof.Rows

/-- what every heap of the call has: the text's own objects, the two name tables, no recursion limit set -/
def Wd (K : Frag) (h : Heap) : Prop := K.In h ∧ ∃ p loose mg mb, TopRead p loose mg mb h
theorem Wd.ext {K : Frag} {h h' : Heap} (x : Wd K h) (k : Ext h h') : Wd K h' := ⟨x.1.keeps k, let ⟨p, l, g, b, T⟩ := x.2; ⟨p, l, g, b, T.keeps k⟩⟩
theorem Wd.nolimit {K : Frag} {h : Heap} (x : Wd K h) : h.NoLimit := let ⟨_, _, _, _, T⟩ := x.2; T.nolimit

/-- an assertion that a heap's growth leaves standing, and under which the text's objects are there -/
structure Okk (K : Frag) (I : Heap → Prop) : Prop where
  grow : ∀ h h', I h → Ext h h' → I h'
  wd : ∀ h, I h → Wd K h

structure Room (A : Around) (n : Nat) : Prop where
  d : A.depth + n ≤ 900
  u : A.units + 10 * n ≤ 9000
theorem Room.deeper {A : Around} {n : Nat} (r : Room A (n + 1)) (env : Env) : Room (A.deeper env) n := ⟨by have := r.d; show A.depth + 1 + n ≤ 900; omega, by have := r.u; show A.units + 3 + 10 * n ≤ 9000; omega⟩
theorem Room.less {A : Around} {n m : Nat} (r : Room A n) (h : m ≤ n) : Room A m := ⟨by have := r.d; omega, by have := r.u; omega⟩
theorem Room.room {A : Around} {n : Nat} (r : Room A n) : A.depth < recursionLimit := by have := r.d; show A.depth < 1000; omega
theorem Room.units {A : Around} {n : Nat} (r : Room A n) : A.units < cLine := by have := r.u; show A.units < 9900; omega

def fdAt (K : Frag) (a : Addr) : FuncData := match K.lookup a with
  | some ⟨_, _, .func f, _⟩ => f
  | _ => default
theorem fd_at {K : Frag} {a : Addr} (h : fnIn K a = true) {g : Heap} (X : K.In g) : ∃ o, g.get? a = some o ∧ o.data = .func (fdAt K a) := by
  unfold fnIn at h
  split at h
  · rename_i c d f sl e
    refine ⟨_, X _ _ e, ?_⟩
    unfold fdAt
    rw [e]
  · cases h

/-- a call of a def that only makes new objects -/
def Pc (prog : Program) (w : World) (K : Frag) (A : Around) (f : Value) (args : List Value) (V : Value → Prop) : Prop :=
  ∀ h, Wd K h → Run (model prog w) A (call f args []) h fun a h' => V a ∧ Ext h h'

section
variable {prog : Program} {w : World} {K : Frag} {A : Around} {I : Heap → Prop} {env : Env}

/-- a local frame over base h₀ -/
def Fm (K : Frag) (h₀ : Heap) (L : Addr) (m : Str → Option Value) (h : Heap) : Prop := Fr h₀ L h m ∧ Wd K h₀
theorem Fm.okk {h₀ : Heap} {L : Addr} {m : Str → Option Value} : Okk K (Fm K h₀ L m) :=
  ⟨fun _ _ F k => ⟨⟨F.1.ns.keeps k, fun b o e => k b o (F.1.keep b o e), F.1.above⟩, F.2⟩, fun _ F => F.2.ext F.1.keep⟩

/-- statements: F says what holds at each flow -/
def Ex (M : Model) (A : Around) (I : Heap → Prop) (env : Env) (ss : List Stmt) (F : Flow → Heap → Prop) : Prop := Tr M A I (execs ss env) F

theorem Pc.of_body {f : Addr} {args : List Value} {binds : List (Str × Value)} {V : Value → Prop} {n : Nat}
    {name qual : Str} {params : Arguments} {body : List Stmt} {scope : Scope} {dV kV doc pm cdv ct oc : Value} {an od : Option Addr} {osl : Array (Option Value)}
    (r : Room A (n + 1)) (ho : K.lookup f = some ⟨oc, od, .func (fnOf name qual params body scope dV kV doc pm an cdv ct), osl⟩) (hcd : codeIn K cdv qual = true)
    (hbind : bindArgs (fnOf name qual params body scope dV kV doc pm an cdv ct) ⟨args, []⟩ = pure binds)
    (hcell : scope.names.all (fun x => x.2 != .cell) = true)
    (hloc : binds.all (fun x => scope.names.lookup x.1 == some .local) = true)
    (hs : (scope.isCoroutine, scope.isGenerator, scope.kind) = (false, false, .function))
    (h : ∀ (h₀ : Heap) (L : Addr), Ex (model prog w) (A.deeper (envOf qual scope L f cdv)) (Fm K h₀ L (fun x => binds.reverse.lookup x)) (envOf qual scope L f cdv) body
      fun fl h' => ∃ v, fl = .ret v ∧ V v ∧ Ext h₀ h') : Pc prog w K A (.ref f) args V := by
  intro h₀ W
  refine Run.mk fun s Q E hs' q => ?_
  subst hs'
  injection hs with h1 h2
  injection h2 with h2 h3
  refine wpAny_call (codeAny_call_def r.room (W.1 _ _ ho) rfl W.nolimit (codeRec_of W.1 hcd) rfl (.of_eq hbind) ?_ ?_ (fun h₁ hn hk => ?_) h1 h2 h3)
  · intro x hx e
    have := List.all_eq_true.mp hcell x hx
    rw [e] at this
    cases this
  · intro x hx
    exact beq_iff_eq.mp (List.all_eq_true.mp hloc x hx)
  · refine (h s.heap s.heap.objs.size h₁ ⟨⟨hn, hk, Nat.le_refl _⟩, W⟩).bindK rfl fun fl h' k e => ?_
    obtain ⟨v, rfl, hv, he⟩ := e
    exact q v h' k ⟨hv, he⟩

end
/-! the text's own objects, but the table that takes the lambda's code -/
noncomputable def KK (w : World) : Frag := (hd.heap_273 w.params).filter fun p => p.1 != 234
theorem lookup_drop {a b : Addr} (h : a ≠ b) : ∀ l : Frag, (l.filter fun p => p.1 != b).lookup a = l.lookup a
  | [] => rfl
  | (c, o) :: l => by
    rw [List.filter_cons]
    split
    · rw [List.lookup_cons, List.lookup_cons, lookup_drop h l]
    · rename_i hc
      have hc : c = b := by simpa using hc
      rw [List.lookup_cons, lookup_drop h l, beq_false_of_ne (hc ▸ h)]
theorem kk_look {w : World} {a : Addr} {r : Option Obj} (e : (hd.heap_273 w.params).lookup a = r) (h : a ≠ 234 := by decide) : (KK w).lookup a = r := (lookup_drop h _).trans e
theorem kk_ns {w : World} {x : Str} {r : Option (Option Value)} (e : nsIn (hd.heap_273 w.params) mainGlobals x = r) : nsIn (KK w) mainGlobals x = r := by
  rw [← e]; unfold nsIn; rw [kk_look rfl]
theorem kk_fn {w : World} {a : Addr} (e : fnIn (hd.heap_273 w.params) a = true) (h : a ≠ 234 := by decide) : fnIn (KK w) a = true := by
  rw [← e]; unfold fnIn; rw [kk_look rfl h]
theorem kk_code {w : World} {c : Addr} {q : Str} (e : codeIn (hd.heap_273 w.params) (.ref c) q = true) (h : c ≠ 234 := by decide) : codeIn (KK w) (.ref c) q = true := by
  rw [← e]; unfold codeIn; dsimp only; rw [kk_look rfl h]
theorem kk_in {w : World} {h : Heap} (X : (hd.heap_273 w.params).In h) : (KK w).In h := fun a o e => by
  by_cases q : a = 234
  · subst q
    exfalso
    have : ∀ l : Frag, (l.filter fun p => p.1 != 234).lookup 234 = none := fun l => by
      induction l with
      | nil => rfl
      | cons p l ih =>
        rw [List.filter_cons]
        split
        · rename_i hc
          rw [List.lookup_cons, ih, beq_false_of_ne (by intro z; rw [← z] at hc; simp at hc)]
        · exact ih
    unfold KK at e
    rw [this] at e
    cases e
  · exact X a o ((lookup_drop q _).symm.trans e)
end Mine

open PySem PySem.W PyProof.Rows
set_option maxRecDepth 100000
namespace Mine
open PySem PySem.W PySem.Calls PyProof.Rows

def AllV : List (Value → Prop) → List Value → Prop
  | [], [] => True
  | V :: Vs, v :: vs => V v ∧ AllV Vs vs
  | _, _ => False
def Es (M : Model) (A : Around) (I : Heap → Prop) (env : Env) (es : List Expr) (Vs : List (Value → Prop)) : Prop :=
  ∀ pos, Tr M A I (spliced (backTo pos (starEach es env))) fun vs h' => AllV Vs vs ∧ I h'

section
variable {prog : Program} {w : World} {K : Frag} {A : Around} {I : Heap → Prop} {env : Env}

theorem Es.nil : Es (model prog w) A I env [] [] := fun _ _ hI => Run.mk fun s Q E hs q => by
  subst hs
  exact args_nil (q [] s.heap s.toks ⟨trivial, hI⟩)
theorem Es.cons {e : Expr} {rest : List Expr} {V : Value → Prop} {Vs : List (Value → Prop)} (x : Ev (model prog w) A I env e V) (y : Es (model prog w) A I env rest Vs)
    (he : starEach (e :: rest) env = (false, eval e env) :: starEach rest env := by rfl) : Es (model prog w) A I env (e :: rest) (V :: Vs) := fun pos h hI => Run.mk fun s Q E hs q =>
  args_cons (he := he) ((x h hI).bindK hs fun v h1 k1 r1 => (y pos h1 r1.2).bindK rfl fun vs h2 k2 r2 => q (v :: vs) h2 k2 ⟨⟨r1.1, r2.1⟩, r2.2⟩)

theorem Ev.global {x : Str} {pos : Pos} {v : Value} (hI : Okk K I) (e : nsIn K mainGlobals x = some (some v))
    (hg : env.globals = mainGlobals := by rfl) (hk : env.scope.kind = .function := by rfl) (hx : env.kindOf x = some .globalImplicit := by rfl)
    (hd : (x == ("__debug__" : Str)) = false := by decide) : Ev (model prog w) A I env (.Name x pos) (IsV v) := fun h hh => Run.mk fun s Q E hs q => by
  subst hs
  obtain ⟨X, _, _, mg, _, T⟩ := hI.wd _ hh
  have hn : s.heap.Ns env.globals mg := hg ▸ T.g
  exact Name_function_global hk hx (loadGlobal_global hn (mg_of X T.g e) (q v s.heap s.toks ⟨rfl, hh⟩)) hd
theorem Ev.builtin {x : Str} {pos : Pos} {v : Value} (hI : Okk K I) (e : nsIn K mainGlobals x = some none) (hv : bootBuiltins x = some v) (hn : x ≠ "__name__")
    (hg : env.globals = mainGlobals := by rfl) (hb : env.builtins = builtinsNs := by rfl) (hk : env.scope.kind = .function := by rfl) (hx : env.kindOf x = some .globalImplicit := by rfl)
    (hd : (x == ("__debug__" : Str)) = false := by decide) : Ev (model prog w) A I env (.Name x pos) (IsV v) := fun h hh => Run.mk fun s Q E hs q => by
  subst hs
  obtain ⟨X, _, _, mg, mb, T⟩ := hI.wd _ hh
  have h1 : s.heap.Ns env.globals mg := hg ▸ T.g
  have h2 : s.heap.Ns env.builtins mb := hb ▸ T.b
  exact Name_function_global hk hx (loadGlobal_builtin h1 (mg_none_of X T.g e) h2 ((T.builtins x hn).trans hv) (q v s.heap s.toks ⟨rfl, hh⟩)) hd

theorem Ev.callDef {fe e : Expr} {rest : List Expr} {pos : Pos} {f : Addr} {Vs : List (Value → Prop)} {U : Value → Prop} (hI : Okk K I) (hf : Ev (model prog w) A I env fe (IsR f))
    (hes : Es (model prog w) A I env (e :: rest) Vs) (hfd : fnIn K f = true) (hc : ∀ vs, AllV Vs vs → Pc prog w K A (.ref f) vs U)
    (he : starEach (e :: rest) env = (false, eval e env) :: starEach rest env := by rfl)
    (hcall : eval (.Call fe (e :: rest) [] pos) env = (do callWith pos (← eval fe env) [] (backTo pos (starEach (e :: rest) env)) (backToKw pos (keywordEach [] env))) := by rfl) :
    Ev (model prog w) A I env (.Call fe (e :: rest) [] pos) U := fun h hh => Run.mk fun s Q E hs q => by
  refine Call_ (he := hcall) ((hf h hh).bindK hs fun v h1 k1 r1 => ?_)
  obtain ⟨r1, hh1⟩ := r1
  cases r1
  obtain ⟨o, ho, hd⟩ := fd_at hfd (hI.wd _ hh1).1
  refine callWith_function (o := o) (fd := fdAt K f) ?_
  have hx := hes pos h1 hh1
  have ha : backTo pos (starEach (e :: rest) env) = (false, eval e env) :: backTo pos (starEach rest env) := by rw [he]; rfl
  rw [ha] at hx ⊢
  refine evalArgs_plain (hx.bindK rfl fun vs h2 k2 r2 => ⟨?_, ?_⟩)
  · obtain ⟨o', ho', hd'⟩ := fd_at hfd (hI.wd _ r2.2).1
    have e2 : o' = o := by
      unfold fnIn at hfd
      split at hfd
      · rename_i _ _ _ _ el
        have x1 := (hI.wd _ hh1).1 _ _ el
        have x2 := (hI.wd _ r2.2).1 _ _ el
        exact Option.some.inj ((ho'.symm.trans x2).trans (x1.symm.trans ho))
      · cases hfd
    subst e2
    exact ⟨ho', hd⟩
  · exact (hc vs r2.1 h2 (hI.wd _ r2.2)).bindK rfl fun a h3 k3 r3 => q a h3 k3 ⟨r3.1, hI.grow _ _ r2.2 r3.2⟩

theorem Ev.callB {fe e : Expr} {rest : List Expr} {pos : Pos} {id : String} {Vs : List (Value → Prop)} {U : Value → Prop} (hf : Ev (model prog w) A I env fe (IsV (.builtin id)))
    (hes : Es (model prog w) A I env (e :: rest) Vs) (hc : ∀ vs, AllV Vs vs → Tr (model prog w) A I (call (.builtin id) vs []) fun a h' => U a ∧ I h')
    (he : starEach (e :: rest) env = (false, eval e env) :: starEach rest env := by rfl) (hplain : (backTo pos (starEach rest env)).any (·.1) = false := by rfl)
    (hcall : eval (.Call fe (e :: rest) [] pos) env = (do callWith pos (← eval fe env) [] (backTo pos (starEach (e :: rest) env)) (backToKw pos (keywordEach [] env))) := by rfl) :
    Ev (model prog w) A I env (.Call fe (e :: rest) [] pos) U := fun h hh => Run.mk fun s Q E hs q => by
  refine Call_ (he := hcall) ((hf h hh).bindK hs fun v h1 k1 r1 => ?_)
  obtain ⟨r1, hh1⟩ := r1
  cases r1
  exact callWith_method1 (he := he) (hplain := hplain) ((hes pos h1 hh1).bindK rfl fun vs h2 k2 r2 => (hc vs r2.1 h2 r2.2).bindK rfl q)

/-! tests -/
theorem Tv.plain {e : Expr} {V : Value → Prop} {b : Bool} (x : Ev (model prog w) A I env e V) (t : ∀ v, V v → Tr (model prog w) A I (truthy v) fun c h' => c = b ∧ I h')
    (he : isTrue e env (eval e env) = (do let v ← eval e env; standAt e.pos; holding [v] (truthy v)) := by rfl) : Tv (model prog w) A I env e b := fun h hh => Run.mk fun s Q E hs q =>
  isTrue_plain (he := he) ((x h hh).bindK hs fun v h1 k1 r1 => (t v r1.1 h1 r1.2).bindK rfl q)
theorem tr_bool {b : Bool} : ∀ v, IsB b v → Tr (model prog w) A I (truthy v) fun c h' => c = b ∧ I h' := fun v e => by
  cases e
  exact ob_of fun s Q E q => wpAny_truthy_bool q

/-! statements -/
theorem Ex.ret {e : Expr} {pos : Pos} {rest : List Stmt} {V : Value → Prop} {F : Flow → Heap → Prop} (x : Ev (model prog w) A I env e V) (k : ∀ v h', V v → I h' → F (.ret v) h') : Ex (model prog w) A I env (.Return (some e) pos :: rest) F := fun h hh => Run.mk fun s Q E hs q =>
  wpAny_execs_cons (wpAny_Return_some ((x h hh).bindK hs fun v h1 k1 r1 => q _ h1 k1 (k v h1 r1.1 r1.2)))
def nx (J : Heap → Prop) (F : Flow → Heap → Prop) : Flow → Heap → Prop
  | .next, h => J h
  | .ret v, h => F (.ret v) h
  | .brk, h => F .brk h
  | .cont, h => F .cont h
/-- a statement ahead of others -/
theorem Ex.cons {st : Stmt} {rest : List Stmt} {J : Heap → Prop} {F : Flow → Heap → Prop} (x : Tr (model prog w) A I (exec st env) (nx J F)) (y : Ex (model prog w) A J env rest F) :
    Ex (model prog w) A I env (st :: rest) F := fun h hh => Run.mk fun s Q E hs q => by
  refine wpAny_execs_cons ((x h hh).bindK hs fun fl h1 k1 r1 => ?_)
  cases fl with
  | next => exact (y h1 r1).bindK rfl q
  | ret v => exact q _ h1 k1 r1
  | brk => exact q _ h1 k1 r1
  | cont => exact q _ h1 k1 r1
theorem Ex.if_ {test : Expr} {body orelse rest : List Stmt} {pos : Pos} {b : Bool} {J : Heap → Prop} {F : Flow → Heap → Prop} (t : Tv (model prog w) A I env test b)
    (hb : b = true → Ex (model prog w) A I env body (nx J F)) (ho : b = false → Ex (model prog w) A I env orelse (nx J F))
    (hr : Ex (model prog w) A J env rest F) : Ex (model prog w) A I env (.If test body orelse pos :: rest) F := by
  refine Ex.cons (J := J) (fun h hh => Run.mk fun s Q E hs q => ?_) hr
  refine wpAny_If ((t h hh).bindK hs fun c h1 k1 r1 => ?_)
  obtain ⟨rfl, hh1⟩ := r1
  cases c with
  | true => exact (hb rfl h1 hh1).bindK rfl q
  | false => exact (ho rfl h1 hh1).bindK rfl q
theorem Ex.nil {F : Flow → Heap → Prop} (k : ∀ h, I h → F .next h) : Ex (model prog w) A I env [] F := fun h hh => Run.mk fun s Q E hs q => by
  subst hs
  exact wpAny_execs_nil (q .next s.heap s.toks (k _ hh))
theorem Ex.absurd {ss : List Stmt} {F : Flow → Heap → Prop} : Ex (model prog w) A (fun _ => False) env ss F := fun _ hh => hh.elim
end
end Mine

open PySem PySem.W PyProof.Rows
set_option maxRecDepth 100000
namespace Mine
open PySem PySem.W PySem.Calls PyProof.Rows
section
variable {prog : Program} {w : World} {K : Frag} {A : Around} {I : Heap → Prop} {env : Env}
theorem Fm.ext {h₀ h : Heap} {L : Addr} {m : Str → Option Value} (F : Fm K h₀ L m h) : Ext h₀ h := F.1.keep
theorem Ev.loc {h₀ : Heap} {L : Addr} {m : Str → Option Value} {x : Str} {pos : Pos} {v : Value} (hm : m x = some v) (hL : env.locals = L := by rfl)
    (hk : env.scope.kind = .function := by rfl) (hl : env.kindOf x = some .local := by rfl) (hd : (x == ("__debug__" : Str)) = false := by decide) :
    Ev (model prog w) A (Fm K h₀ L m) env (.Name x pos) (IsV v) := Ev.local (fun _ F => ⟨m, v, hL ▸ F.1.ns, hm, rfl⟩) hk hl hd

theorem Tv.cmp {op : CmpOp} {l r : Expr} {pos : Pos} {V W : Value → Prop} {c : Bool} (x : Ev (model prog w) A I env l V) (y : Ev (model prog w) A I env r W)
    (o : ∀ a b, V a → W b → Tr (model prog w) A I (compareOp op a b) fun d h' => IsB c d ∧ I h') (hm : behindInMarks op r = false := by with_unfolding_all rfl) : Tv (model prog w) A I env (.Compare l [op] [r] pos) c := fun h hI => Run.mk fun s Q E hs q =>
  wpAny_isTrue_Compare1 (hm := hm) ((x h hI).bindK hs fun a h1 k1 r1 => (y h1 r1.2).bindK rfl fun b h2 k2 r2 => (o a b r1.1 r2.1 h2 r2.2).bindK rfl fun d h3 k3 r3 => by
    obtain ⟨rfl, hh⟩ := r3
    exact wpAny_truthy_bool (q c h3 k3 ⟨rfl, hh⟩))
theorem Ev.chain {op op' : CmpOp} {l m r : Expr} {pos : Pos} {V W X : Value → Prop} {c c' : Bool} (x : Ev (model prog w) A I env l V) (y : Ev (model prog w) A I env m W) (z : Ev (model prog w) A I env r X)
    (o : ∀ a b, V a → W b → Tr (model prog w) A I (compareOp op a b) fun d h' => IsB c d ∧ I h') (o' : ∀ a b, W a → X b → Tr (model prog w) A I (compareOp op' a b) fun d h' => IsB c' d ∧ I h')
    (hm : lastMarks [op, op'] [m, r] = false := by with_unfolding_all rfl) : Ev (model prog w) A I env (.Compare l [op, op'] [m, r] pos) (IsB (c && c')) := fun h hI => Run.mk fun s Q E hs q =>
  Compare_chain (hm := hm) ((x h hI).bindK hs fun a h1 k1 r1 => chain_link ((y h1 r1.2).bindK rfl fun b h2 k2 r2 => (o a b r1.1 r2.1 h2 r2.2).bindK rfl fun d h3 k3 r3 => by
    obtain ⟨rfl, hh⟩ := r3
    refine wpAny_truthy_bool ?_
    cases c with
    | false => exact q _ h3 k3 ⟨rfl, hh⟩
    | true => exact chain_last ((z h3 hh).bindK rfl fun e h4 k4 r4 => (o' b e r2.1 r4.1 h4 r4.2).bindK rfl fun f h5 k5 r5 => q f h5 k5 ⟨by rw [Bool.true_and]; exact r5.1, r5.2⟩)))
theorem Tv.chain {op op' : CmpOp} {l m r : Expr} {pos : Pos} {V W X : Value → Prop} {c c' : Bool} (x : Ev (model prog w) A I env l V) (y : Ev (model prog w) A I env m W) (z : Ev (model prog w) A I env r X)
    (o : ∀ a b, V a → W b → Tr (model prog w) A I (compareOp op a b) fun d h' => IsB c d ∧ I h') (o' : ∀ a b, W a → X b → Tr (model prog w) A I (compareOp op' a b) fun d h' => IsB c' d ∧ I h')
    (hm : lastMarks [op, op'] [m, r] = false := by with_unfolding_all rfl) : Tv (model prog w) A I env (.Compare l [op, op'] [m, r] pos) (c && c') := fun h hI => Run.mk fun s Q E hs q =>
  isTrue_chain (hm := hm) ((x h hI).bindK hs fun a h1 k1 r1 => test_link ((y h1 r1.2).bindK rfl fun b h2 k2 r2 => (o a b r1.1 r2.1 h2 r2.2).bindK rfl fun d h3 k3 r3 => by
    obtain ⟨rfl, hh⟩ := r3
    refine wpAny_truthy_bool ?_
    cases c with
    | false => exact q _ h3 k3 ⟨rfl, hh⟩
    | true => exact test_last ((z h3 hh).bindK rfl fun e h4 k4 r4 => (o' b e r2.1 r4.1 h4 r4.2).bindK rfl fun f h5 k5 r5 => by
        obtain ⟨rfl, hh'⟩ := r5
        exact wpAny_truthy_bool (q _ h5 k5 ⟨by rw [Bool.true_and], hh'⟩))))

theorem Ev.one {op : BoolOp} {e : Expr} {pos : Pos} {V : Value → Prop} (x : Ev (model prog w) A I env e V) : Ev (model prog w) A I env (.BoolOp op [e] pos) V := x
theorem Ev.or {e e' : Expr} {rest : List Expr} {pos : Pos} {b c : Bool} (x : Ev (model prog w) A I env e (IsB b)) (y : b = false → Ev (model prog w) A I env (.BoolOp .Or (e' :: rest) pos) (IsB c)) :
    Ev (model prog w) A I env (.BoolOp .Or (e :: e' :: rest) pos) (IsB (b || c)) := fun h hI => Run.mk fun s Q E hs q =>
  BoolOp_or ((x h hI).bindK hs fun v h1 k1 r1 => by
    obtain ⟨rfl, hh⟩ := r1
    refine wpAny_truthy_bool ?_
    cases b with
    | true => exact q _ h1 k1 ⟨rfl, hh⟩
    | false => exact (y rfl h1 hh).bindK rfl q)
theorem Ev.and {e e' : Expr} {rest : List Expr} {pos : Pos} {b c : Bool} (x : Ev (model prog w) A I env e (IsB b)) (y : b = true → Ev (model prog w) A I env (.BoolOp .And (e' :: rest) pos) (IsB c)) :
    Ev (model prog w) A I env (.BoolOp .And (e :: e' :: rest) pos) (IsB (b && c)) := fun h hI => Run.mk fun s Q E hs q =>
  BoolOp_and ((x h hI).bindK hs fun v h1 k1 r1 => by
    obtain ⟨rfl, hh⟩ := r1
    refine wpAny_truthy_bool ?_
    cases b with
    | false => exact q _ h1 k1 ⟨rfl, hh⟩
    | true => exact (y rfl h1 hh).bindK rfl q)
theorem Tv.and {e : Expr} {rest : List Expr} {pos : Pos} {b c : Bool} (x : Tv (model prog w) A I env e b) (y : b = true → Tv (model prog w) A I env (.BoolOp .And rest pos) c) :
    Tv (model prog w) A I env (.BoolOp .And (e :: rest) pos) (b && c) := fun h hI => Run.mk fun s Q E hs q =>
  isTrue_and ((x h hI).bindK hs fun v h1 k1 r1 => by
    obtain ⟨rfl, hh⟩ := r1
    cases v with
    | false => exact q _ h1 k1 ⟨rfl, hh⟩
    | true => exact (y rfl h1 hh).bindK rfl q)
theorem Tv.or {e : Expr} {rest : List Expr} {pos : Pos} {b c : Bool} (x : Tv (model prog w) A I env e b) (y : b = false → Tv (model prog w) A I env (.BoolOp .Or rest pos) c) :
    Tv (model prog w) A I env (.BoolOp .Or (e :: rest) pos) (b || c) := fun h hI => Run.mk fun s Q E hs q =>
  isTrue_or ((x h hI).bindK hs fun v h1 k1 r1 => by
    obtain ⟨rfl, hh⟩ := r1
    cases v with
    | true => exact q _ h1 k1 ⟨rfl, hh⟩
    | false => exact (y rfl h1 hh).bindK rfl q)
theorem Tv.and_nil {pos : Pos} : Tv (model prog w) A I env (.BoolOp .And [] pos) true := fun h hI => Run.mk fun s Q E hs q => by
  subst hs; exact isTrue_and_nil (q true s.heap s.toks ⟨rfl, hI⟩)
theorem Tv.or_nil {pos : Pos} : Tv (model prog w) A I env (.BoolOp .Or [] pos) false := fun h hI => Run.mk fun s Q E hs q => by
  subst hs; exact isTrue_or_nil (q false s.heap s.toks ⟨rfl, hI⟩)
theorem Tv.not {e : Expr} {pos : Pos} {b : Bool} (x : Tv (model prog w) A I env e b) : Tv (model prog w) A I env (.UnaryOp .Not e pos) (!b) := fun h hI => Run.mk fun s Q E hs q =>
  isTrue_not ((x h hI).bindK hs fun v h1 k1 r1 => by
    obtain ⟨rfl, hh⟩ := r1
    exact q _ h1 k1 ⟨rfl, hh⟩)
theorem Ev.not {e : Expr} {pos : Pos} {V : Value → Prop} {b : Bool} (x : Ev (model prog w) A I env e V) (t : ∀ v, V v → Tr (model prog w) A I (truthy v) fun c h' => c = b ∧ I h') : Ev (model prog w) A I env (.UnaryOp .Not e pos) (IsB (!b)) := fun h hI => Run.mk fun s Q E hs q =>
  UnaryOp_ ((x h hI).bindK hs fun v h1 k1 r1 => not_of ((t v r1.1 h1 r1.2).bindK rfl fun c h2 k2 r2 => by
    obtain ⟨rfl, hh⟩ := r2
    exact q _ h2 k2 ⟨rfl, hh⟩))
theorem Ev.ife {t e e' : Expr} {pos : Pos} {b : Bool} {V : Value → Prop} (x : Tv (model prog w) A I env t b) (y : b = true → Ev (model prog w) A I env e V) (z : b = false → Ev (model prog w) A I env e' V) :
    Ev (model prog w) A I env (.IfExp t e e' pos) V := fun h hI => Run.mk fun s Q E hs q =>
  IfExp_ ((x h hI).bindK hs fun v h1 k1 r1 => by
    obtain ⟨rfl, hh⟩ := r1
    cases v with
    | true => exact (y rfl h1 hh).bindK rfl q
    | false => exact (z rfl h1 hh).bindK rfl q)
theorem Tv.ife {t e e' : Expr} {pos : Pos} {b c : Bool} (x : Tv (model prog w) A I env t b) (y : b = true → Tv (model prog w) A I env e c) (z : b = false → Tv (model prog w) A I env e' c) :
    Tv (model prog w) A I env (.IfExp t e e' pos) c := fun h hI => Run.mk fun s Q E hs q =>
  isTrue_IfExp ((x h hI).bindK hs fun v h1 k1 r1 => by
    obtain ⟨rfl, hh⟩ := r1
    cases v with
    | true => exact (y rfl h1 hh).bindK rfl q
    | false => exact (z rfl h1 hh).bindK rfl q)

theorem o_add {x y : Int} (a b : Value) (ha : IsI x a) (hb : IsI y b) : Tr (model prog w) A I (binaryOp .Add a b) fun c h' => IsI (x + y) c ∧ I h' := by
  obtain ⟨t, rfl⟩ := ha; obtain ⟨u, rfl⟩ := hb
  exact op_of fun s Q E q => PyProof.Rows.add_int (q _ _ ⟨_, rfl⟩)
theorem o_sub {x y : Int} (a b : Value) (ha : IsI x a) (hb : IsI y b) : Tr (model prog w) A I (binaryOp .Sub a b) fun c h' => IsI (x - y) c ∧ I h' := by
  obtain ⟨t, rfl⟩ := ha; obtain ⟨u, rfl⟩ := hb
  exact op_of fun s Q E q => PyProof.Rows.sub_int (q _ _ ⟨_, rfl⟩)
theorem o_mod {x y : Int} (hy : y ≠ 0) (a b : Value) (ha : IsI x a) (hb : IsI y b) : Tr (model prog w) A I (binaryOp .Mod a b) fun c h' => IsI (x.fmod y) c ∧ I h' := by
  obtain ⟨t, rfl⟩ := ha; obtain ⟨u, rfl⟩ := hb
  exact op_of fun s Q E q => mod_int' hy (q _ _ ⟨_, rfl⟩)
theorem o_div {x y : Int} (hy : y ≠ 0) (hx : x.natAbs < 2 ^ 30) (hy' : y.natAbs < 2 ^ 30) (a b : Value) (ha : IsI x a) (hb : IsI y b) : Tr (model prog w) A I (binaryOp .FloorDiv a b) fun c h' => IsI (x.fdiv y) c ∧ I h' := by
  obtain ⟨t, rfl⟩ := ha; obtain ⟨u, rfl⟩ := hb
  exact op_of fun s Q E q => floordiv_int (hp := .inl (PyProof.noPylong_small (by omega))) hy (q _ _ ⟨_, rfl⟩)
theorem o_and {x y : Int} (a b : Value) (ha : IsI x a) (hb : IsI y b) : Tr (model prog w) A I (binaryOp .BitAnd a b) fun c h' => IsI (Builtin.bitAnd x y) c ∧ I h' := by
  obtain ⟨t, rfl⟩ := ha; obtain ⟨u, rfl⟩ := hb
  exact op_of fun s Q E q => and_int (q _ _ ⟨_, rfl⟩)
theorem o_or {x y : Int} (a b : Value) (ha : IsI x a) (hb : IsI y b) : Tr (model prog w) A I (binaryOp .BitOr a b) fun c h' => IsI (Builtin.bitOr x y) c ∧ I h' := by
  obtain ⟨t, rfl⟩ := ha; obtain ⟨u, rfl⟩ := hb
  exact op_of fun s Q E q => or_int (q _ _ ⟨_, rfl⟩)
theorem o_mul {x y : Int} (hm : IntMulOk x y) (a b : Value) (ha : IsI x a) (hb : IsI y b) : Tr (model prog w) A I (binaryOp .Mult a b) fun c h' => IsI (x * y) c ∧ I h' := by
  obtain ⟨t, rfl⟩ := ha; obtain ⟨u, rfl⟩ := hb
  exact op_of fun s Q E q => mul_int (hm := hm) (q _ _ ⟨_, rfl⟩)
theorem o_pow {x y : Int} (h1 : 0 ≤ y) (h2 : y ≤ 1000000) (h3 : x.natAbs < 2 ^ 64) (a b : Value) (ha : IsI x a) (hb : IsI y b) : Tr (model prog w) A I (binaryOp .Pow a b) fun c h' => IsI (x ^ y.toNat) c ∧ I h' := by
  obtain ⟨t, rfl⟩ := ha; obtain ⟨u, rfl⟩ := hb
  exact op_of fun s Q E q => pow_int_small h1 h2 h3 (q _ _ ⟨_, rfl⟩)
theorem c_lt {x y : Int} (a b : Value) (ha : IsI x a) (hb : IsI y b) : Tr (model prog w) A I (compareOp .Lt a b) fun c h' => IsB (decide (x < y)) c ∧ I h' := by
  obtain ⟨t, rfl⟩ := ha; obtain ⟨u, rfl⟩ := hb
  exact op_of fun s Q E q => PyProof.Rows.lt_int (q _ s.toks rfl)
theorem c_le {x y : Int} (a b : Value) (ha : IsI x a) (hb : IsI y b) : Tr (model prog w) A I (compareOp .LtE a b) fun c h' => IsB (decide (x ≤ y)) c ∧ I h' := by
  obtain ⟨t, rfl⟩ := ha; obtain ⟨u, rfl⟩ := hb
  exact op_of fun s Q E q => PyProof.Rows.le_int (q _ s.toks rfl)
theorem c_gt {x y : Int} (a b : Value) (ha : IsI x a) (hb : IsI y b) : Tr (model prog w) A I (compareOp .Gt a b) fun c h' => IsB (decide (y < x)) c ∧ I h' := by
  obtain ⟨t, rfl⟩ := ha; obtain ⟨u, rfl⟩ := hb
  exact op_of fun s Q E q => PyProof.Rows.gt_int (q _ s.toks rfl)
theorem c_ge {x y : Int} (a b : Value) (ha : IsI x a) (hb : IsI y b) : Tr (model prog w) A I (compareOp .GtE a b) fun c h' => IsB (decide (y ≤ x)) c ∧ I h' := by
  obtain ⟨t, rfl⟩ := ha; obtain ⟨u, rfl⟩ := hb
  exact op_of fun s Q E q => PyProof.Rows.ge_int (q _ s.toks rfl)
theorem c_eq {x y : Int} (a b : Value) (ha : IsI x a) (hb : IsI y b) : Tr (model prog w) A I (compareOp .Eq a b) fun c h' => IsB (x == y) c ∧ I h' := by
  obtain ⟨t, rfl⟩ := ha; obtain ⟨u, rfl⟩ := hb
  exact op_of fun s Q E q => PyProof.Rows.eq_int (q _ s.toks rfl)
theorem c_ne {x y : Int} (a b : Value) (ha : IsI x a) (hb : IsI y b) : Tr (model prog w) A I (compareOp .NotEq a b) fun c h' => IsB (x != y) c ∧ I h' := by
  obtain ⟨t, rfl⟩ := ha; obtain ⟨u, rfl⟩ := hb
  exact op_of fun s Q E q => PyProof.Rows.ne_int (q _ s.toks rfl)
theorem c_eqs {x y : Str} (a b : Value) (ha : IsStr x a) (hb : IsStr y b) : Tr (model prog w) A I (compareOp .Eq a b) fun c h' => IsB (x == y) c ∧ I h' := by
  obtain ⟨t, rfl⟩ := ha; obtain ⟨u, rfl⟩ := hb
  exact op_of fun s Q E q => PyProof.Rows.eq_str (q _ s.toks rfl)
theorem c_nes {x y : Str} (a b : Value) (ha : IsStr x a) (hb : IsStr y b) : Tr (model prog w) A I (compareOp .NotEq a b) fun c h' => IsB (x != y) c ∧ I h' := by
  obtain ⟨t, rfl⟩ := ha; obtain ⟨u, rfl⟩ := hb
  exact op_of fun s Q E q => PyProof.Rows.ne_str (q _ s.toks rfl)
theorem o_adds {x y : Str} (hsz : x.length + y.length ≤ sizeLine) (a b : Value) (ha : IsStr x a) (hb : IsStr y b) : Tr (model prog w) A I (binaryOp .Add a b) fun c h' => IsStr (x ++ y) c ∧ I h' := by
  obtain ⟨t, rfl⟩ := ha; obtain ⟨u, rfl⟩ := hb
  exact op_of fun s Q E q => PyProof.Rows.add_str (hsz := hsz) fun _ _ => q _ _ ⟨_, rfl⟩
theorem c_is {b c : Bool} (u v : Value) (hu : IsB b u) (hv : IsB c v) : Tr (model prog w) A I (compareOp .Is u v) fun d h' => IsB (b == c) d ∧ I h' := by
  cases hu; cases hv
  exact op_of fun s Q E q => wpAny_is_plain rfl (q _ s.toks (by cases b <;> cases c <;> rfl))

/-- an int or a sign of that code -/
def CodeIs (n : Int) (v : Value) : Prop := IsI n v ∨ ∃ c : Nat, (c : Int) = n ∧ IsStr ⟨#[c]⟩ v

theorem all1 {P : List Value → Prop} {V : Value → Prop} (k : ∀ v, V v → P [v]) : ∀ vs, AllV [V] vs → P vs
  | [v], e => k v e.1
  | [], e => e.elim
  | _ :: _ :: _, e => e.2.elim
theorem all2 {P : List Value → Prop} {V W : Value → Prop} (k : ∀ v u, V v → W u → P [v, u]) : ∀ vs, AllV [V, W] vs → P vs
  | [v, u], e => k v u e.1 e.2.1
  | [], e => e.elim
  | [_], e => e.2.elim
  | _ :: _ :: _ :: _, e => e.2.2.elim
theorem isinst_str {v : Value} {x : Str} (h : IsStr x v) : ∀ vs, AllV [IsV v, IsV (.type "str")] vs → Tr (model prog w) A I (call (.builtin "isinstance") vs []) fun a h' => IsB true a ∧ I h' := by
  refine all2 fun a b ha hb => ?_
  cases ha; cases hb
  obtain ⟨t, rfl⟩ := h
  exact op_of fun s Q E q => IsiPair.str_str (q _ s.toks rfl)
theorem isinst_int {v : Value} {x : Int} (h : IsI x v) : ∀ vs, AllV [IsV v, IsV (.type "str")] vs → Tr (model prog w) A I (call (.builtin "isinstance") vs []) fun a h' => IsB false a ∧ I h' := by
  refine all2 fun a b ha hb => ?_
  cases ha; cases hb
  obtain ⟨t, rfl⟩ := h
  exact op_of fun s Q E q => IsiPair.int_str (q _ _ rfl)
theorem ord_one {c : Nat} : ∀ vs, AllV [IsStr ⟨#[c]⟩] vs → Tr (model prog w) A I (call (.builtin "ord") vs []) fun a h' => IsI c a ∧ I h' := by
  refine all1 fun a ha => ?_
  obtain ⟨t, rfl⟩ := ha
  exact op_of fun s Q E q => ord_of_one (x := ⟨#[c]⟩) rfl (q _ _ ⟨_, rfl⟩)
theorem chr_ok {n : Int} (h0 : 0 ≤ n) (h1 : n ≤ 1114111) : ∀ vs, AllV [IsI n] vs → Tr (model prog w) A I (call (.builtin "chr") vs []) fun a h' => IsStr ⟨#[n.toNat]⟩ a ∧ I h' := by
  refine all1 fun a ha => ?_
  obtain ⟨t, rfl⟩ := ha
  exact op_of fun s Q E q => chr_of_range h0 h1 (q _ _ ⟨_, rfl⟩)
end
end Mine

open PySem PySem.W PyProof.Rows
set_option maxRecDepth 100000
namespace Mine
open PySem PySem.W PySem.Calls PyProof.Rows
theorem g_ctoi (w : World) : nsIn (KK w) mainGlobals (PySem.Str.ofString "_ctoi") = some (some (.ref 63)) := kk_ns (by k_is)
theorem g_isalnum (w : World) : nsIn (KK w) mainGlobals (PySem.Str.ofString "isalnum") = some (some (.ref 70)) := kk_ns (by k_is)
theorem g_isalpha (w : World) : nsIn (KK w) mainGlobals (PySem.Str.ofString "isalpha") = some (some (.ref 77)) := kk_ns (by k_is)
theorem g_isascii (w : World) : nsIn (KK w) mainGlobals (PySem.Str.ofString "isascii") = some (some (.ref 84)) := kk_ns (by k_is)
theorem g_isblank (w : World) : nsIn (KK w) mainGlobals (PySem.Str.ofString "isblank") = some (some (.ref 91)) := kk_ns (by k_is)
theorem g_iscntrl (w : World) : nsIn (KK w) mainGlobals (PySem.Str.ofString "iscntrl") = some (some (.ref 98)) := kk_ns (by k_is)
theorem g_isdigit (w : World) : nsIn (KK w) mainGlobals (PySem.Str.ofString "isdigit") = some (some (.ref 105)) := kk_ns (by k_is)
theorem g_isgraph (w : World) : nsIn (KK w) mainGlobals (PySem.Str.ofString "isgraph") = some (some (.ref 112)) := kk_ns (by k_is)
theorem g_islower (w : World) : nsIn (KK w) mainGlobals (PySem.Str.ofString "islower") = some (some (.ref 119)) := kk_ns (by k_is)
theorem g_isprint (w : World) : nsIn (KK w) mainGlobals (PySem.Str.ofString "isprint") = some (some (.ref 126)) := kk_ns (by k_is)
theorem g_ispunct (w : World) : nsIn (KK w) mainGlobals (PySem.Str.ofString "ispunct") = some (some (.ref 133)) := kk_ns (by k_is)
theorem g_isspace (w : World) : nsIn (KK w) mainGlobals (PySem.Str.ofString "isspace") = some (some (.ref 140)) := kk_ns (by k_is)
theorem g_isupper (w : World) : nsIn (KK w) mainGlobals (PySem.Str.ofString "isupper") = some (some (.ref 147)) := kk_ns (by k_is)
theorem g_isxdigit (w : World) : nsIn (KK w) mainGlobals (PySem.Str.ofString "isxdigit") = some (some (.ref 154)) := kk_ns (by k_is)
theorem g_isctrl (w : World) : nsIn (KK w) mainGlobals (PySem.Str.ofString "isctrl") = some (some (.ref 161)) := kk_ns (by k_is)
theorem g_ismeta (w : World) : nsIn (KK w) mainGlobals (PySem.Str.ofString "ismeta") = some (some (.ref 168)) := kk_ns (by k_is)
theorem g_ctrl (w : World) : nsIn (KK w) mainGlobals (PySem.Str.ofString "ctrl") = some (some (.ref 175)) := kk_ns (by k_is)
theorem g_alt (w : World) : nsIn (KK w) mainGlobals (PySem.Str.ofString "alt") = some (some (.ref 182)) := kk_ns (by k_is)
theorem g_unctrl (w : World) : nsIn (KK w) mainGlobals (PySem.Str.ofString "unctrl") = some (some (.ref 189)) := kk_ns (by k_is)
theorem g_netrclex (w : World) : nsIn (KK w) mainGlobals (PySem.Str.ofString "_netrclex") = some (some (.ref 52)) := kk_ns (by k_is)
theorem g_isinstance (w : World) : nsIn (KK w) mainGlobals (PySem.Str.ofString "isinstance") = some none := kk_ns (by k_is)
theorem g_ord (w : World) : nsIn (KK w) mainGlobals (PySem.Str.ofString "ord") = some none := kk_ns (by k_is)
theorem g_str (w : World) : nsIn (KK w) mainGlobals (PySem.Str.ofString "str") = some none := kk_ns (by k_is)
theorem g_chr (w : World) : nsIn (KK w) mainGlobals (PySem.Str.ofString "chr") = some none := kk_ns (by k_is)
theorem g_len (w : World) : nsIn (KK w) mainGlobals (PySem.Str.ofString "len") = some none := kk_ns (by k_is)
theorem g_min (w : World) : nsIn (KK w) mainGlobals (PySem.Str.ofString "min") = some none := kk_ns (by k_is)
theorem g_range (w : World) : nsIn (KK w) mainGlobals (PySem.Str.ofString "range") = some none := kk_ns (by k_is)
theorem g_sum (w : World) : nsIn (KK w) mainGlobals (PySem.Str.ofString "sum") = some none := kk_ns (by k_is)
theorem g_iter (w : World) : nsIn (KK w) mainGlobals (PySem.Str.ofString "iter") = some none := kk_ns (by k_is)
theorem g_list (w : World) : nsIn (KK w) mainGlobals (PySem.Str.ofString "list") = some none := kk_ns (by k_is)
theorem g_TypeError (w : World) : nsIn (KK w) mainGlobals (PySem.Str.ofString "TypeError") = some none := kk_ns (by k_is)
section
variable {prog : Program} {w : World} {K : Frag} {A : Around} {I : Heap → Prop} {env : Env}
theorem Ev.inTuple {l : Expr} {elts : List Expr} {k : Nat} {tpos pos : Pos} {n : Int} {Vs : List (Value → Prop)} {ns : List Int} (hI : Okk K I) (x : Ev (model prog w) A I env l (IsI n)) (y : Es (model prog w) A I env elts Vs)
    (hi : ∀ vs, AllV Vs vs → IntsAre vs ns) (hz : ns.length ≤ 100) : Ev (model prog w) A I env (.Compare l [.In] [.Tuple elts k tpos] pos) (IsB (ns.any (· == n))) := fun h hh => Run.mk fun s Q E hs q => by
  refine wpAny_Compare1 (hm := rfl) ((x h hh).bindK hs fun a h1 k1 r1 => ?_)
  obtain ⟨⟨t, rfl⟩, hh1⟩ := r1
  refine Tuple_ ((y tpos h1 hh1).bindK rfl fun vs h2 k2 r2 => ?_)
  have hn := hi vs r2.1
  have hl := hn.length
  refine wpAny_newObj_type (hd := by show vs.toArray.size ≤ sizeLine; rw [List.size_toArray]; unfold sizeLine; omega) ?_
  refine in_tuple_ints (ns := ns) (items := vs.toArray) ⟨_, Heap.get?_push_size _ rfl, rfl, 0, rfl⟩ (by simpa using hn) ?_
  exact q _ _ k2 ⟨rfl, hI.grow _ _ r2.2 fun b o e => Heap.get?_push_of_some _ e⟩

theorem pc_ctoi {v : Value} {n : Int} (r : Room A 1) (hv : CodeIs n v) : Pc prog w (KK w) A (.ref 63) [v] (IsI n) := by
  refine Pc.of_body (binds := [(PySem.Str.ofString "c", v)]) r (kk_look (by k_is)) (kk_code (by k_is)) rfl rfl rfl rfl (fun h₀ L => ?_)
  rcases hv with hv | ⟨c, rfl, hv⟩
  · refine Ex.if_ (b := false) (J := fun _ => False) (Tv.plain (Ev.callB (Ev.builtin Fm.okk (g_isinstance w) boot_isinstance (by decide)) (Es.cons (Ev.loc rfl) (Es.cons (Ev.builtin Fm.okk (g_str w) boot_str (by decide)) Es.nil)) (isinst_int hv)) tr_bool) (fun e => nomatch e) (fun _ => ?_) Ex.absurd
    exact Ex.ret (Ev.mono (Ev.loc rfl) fun _ e => e ▸ hv) fun v h' hV F => ⟨v, rfl, hV, F.ext⟩
  · refine Ex.if_ (b := true) (J := fun _ => False) (Tv.plain (Ev.callB (Ev.builtin Fm.okk (g_isinstance w) boot_isinstance (by decide)) (Es.cons (Ev.loc rfl) (Es.cons (Ev.builtin Fm.okk (g_str w) boot_str (by decide)) Es.nil)) (isinst_str hv)) tr_bool) (fun _ => ?_) (fun e => nomatch e) Ex.absurd
    exact Ex.ret (Ev.callB (Ev.builtin Fm.okk (g_ord w) boot_ord (by decide)) (Es.cons (Ev.mono (Ev.loc rfl) fun _ e => e ▸ hv) Es.nil) ord_one) fun v h' hV F => ⟨v, rfl, hV, F.ext⟩
theorem ints_of_2 {a0 : Int} {a1 : Int} : ∀ vs, AllV [IsI a0, IsI a1] vs → IntsAre vs [a0, a1]
  | [], e => e.elim
  | [_], e => e.2.elim
  | [_, _], ⟨⟨_, rfl⟩, ⟨_, rfl⟩, _⟩ => (.cons _ _ (.cons _ _ IntsAre.nil))
  | _ :: _ :: _ :: _, e => e.2.2.elim
theorem ints_of_6 {a0 : Int} {a1 : Int} {a2 : Int} {a3 : Int} {a4 : Int} {a5 : Int} : ∀ vs, AllV [IsI a0, IsI a1, IsI a2, IsI a3, IsI a4, IsI a5] vs → IntsAre vs [a0, a1, a2, a3, a4, a5]
  | [], e => e.elim
  | [_], e => e.2.elim
  | [_, _], e => e.2.2.elim
  | [_, _, _], e => e.2.2.2.elim
  | [_, _, _, _], e => e.2.2.2.2.elim
  | [_, _, _, _, _], e => e.2.2.2.2.2.elim
  | [_, _, _, _, _, _], ⟨⟨_, rfl⟩, ⟨_, rfl⟩, ⟨_, rfl⟩, ⟨_, rfl⟩, ⟨_, rfl⟩, ⟨_, rfl⟩, _⟩ => (.cons _ _ (.cons _ _ (.cons _ _ (.cons _ _ (.cons _ _ (.cons _ _ IntsAre.nil))))))
  | _ :: _ :: _ :: _ :: _ :: _ :: _ :: _, e => e.2.2.2.2.2.2.elim
def j_isascii (n : Int) : Bool := (decide (0 ≤ n) && decide (n ≤ 127))
theorem pc_isascii {v : Value} {n : Int} (r : Room A 2) (hv : CodeIs n v) : Pc prog w (KK w) A (.ref 84) [v] (IsB (j_isascii n)) := by
  refine Pc.of_body (binds := [(PySem.Str.ofString "c", v)]) r (kk_look (by k_is)) (kk_code (by k_is)) rfl rfl rfl rfl (fun h₀ L => ?_)
  exact Ex.ret (Ev.chain Ev.int (Ev.callDef Fm.okk (Ev.global Fm.okk (g_ctoi w)) (Es.cons (Ev.loc rfl) Es.nil) (kk_fn (by k_is)) (all1 fun v e => e ▸ pc_ctoi ((r.deeper _).less (by decide)) hv)) Ev.int c_le c_le) fun v h' hV F => ⟨v, rfl, hV, F.ext⟩
def j_isblank (n : Int) : Bool := ([9, 32] : List Int).any (· == n)
theorem pc_isblank {v : Value} {n : Int} (r : Room A 2) (hv : CodeIs n v) : Pc prog w (KK w) A (.ref 91) [v] (IsB (j_isblank n)) := by
  refine Pc.of_body (binds := [(PySem.Str.ofString "c", v)]) r (kk_look (by k_is)) (kk_code (by k_is)) rfl rfl rfl rfl (fun h₀ L => ?_)
  exact Ex.ret (Ev.inTuple Fm.okk (Ev.callDef Fm.okk (Ev.global Fm.okk (g_ctoi w)) (Es.cons (Ev.loc rfl) Es.nil) (kk_fn (by k_is)) (all1 fun v e => e ▸ pc_ctoi ((r.deeper _).less (by decide)) hv)) (Es.cons Ev.int (Es.cons Ev.int Es.nil)) (fun vs e => ints_of_2 vs e) (by decide)) fun v h' hV F => ⟨v, rfl, hV, F.ext⟩
def j_iscntrl (n : Int) : Bool := ((decide (0 ≤ n) && decide (n ≤ 31)) || (n == 127))
theorem pc_iscntrl {v : Value} {n : Int} (r : Room A 2) (hv : CodeIs n v) : Pc prog w (KK w) A (.ref 98) [v] (IsB (j_iscntrl n)) := by
  refine Pc.of_body (binds := [(PySem.Str.ofString "c", v)]) r (kk_look (by k_is)) (kk_code (by k_is)) rfl rfl rfl rfl (fun h₀ L => ?_)
  exact Ex.ret (Ev.or (Ev.chain Ev.int (Ev.callDef Fm.okk (Ev.global Fm.okk (g_ctoi w)) (Es.cons (Ev.loc rfl) Es.nil) (kk_fn (by k_is)) (all1 fun v e => e ▸ pc_ctoi ((r.deeper _).less (by decide)) hv)) Ev.int c_le c_le) fun _ => (Ev.one (Ev.cmp (Ev.callDef Fm.okk (Ev.global Fm.okk (g_ctoi w)) (Es.cons (Ev.loc rfl) Es.nil) (kk_fn (by k_is)) (all1 fun v e => e ▸ pc_ctoi ((r.deeper _).less (by decide)) hv)) Ev.int c_eq))) fun v h' hV F => ⟨v, rfl, hV, F.ext⟩
def j_isdigit (n : Int) : Bool := (decide (48 ≤ n) && decide (n ≤ 57))
theorem pc_isdigit {v : Value} {n : Int} (r : Room A 2) (hv : CodeIs n v) : Pc prog w (KK w) A (.ref 105) [v] (IsB (j_isdigit n)) := by
  refine Pc.of_body (binds := [(PySem.Str.ofString "c", v)]) r (kk_look (by k_is)) (kk_code (by k_is)) rfl rfl rfl rfl (fun h₀ L => ?_)
  exact Ex.ret (Ev.chain Ev.int (Ev.callDef Fm.okk (Ev.global Fm.okk (g_ctoi w)) (Es.cons (Ev.loc rfl) Es.nil) (kk_fn (by k_is)) (all1 fun v e => e ▸ pc_ctoi ((r.deeper _).less (by decide)) hv)) Ev.int c_le c_le) fun v h' hV F => ⟨v, rfl, hV, F.ext⟩
def j_isgraph (n : Int) : Bool := (decide (33 ≤ n) && decide (n ≤ 126))
theorem pc_isgraph {v : Value} {n : Int} (r : Room A 2) (hv : CodeIs n v) : Pc prog w (KK w) A (.ref 112) [v] (IsB (j_isgraph n)) := by
  refine Pc.of_body (binds := [(PySem.Str.ofString "c", v)]) r (kk_look (by k_is)) (kk_code (by k_is)) rfl rfl rfl rfl (fun h₀ L => ?_)
  exact Ex.ret (Ev.chain Ev.int (Ev.callDef Fm.okk (Ev.global Fm.okk (g_ctoi w)) (Es.cons (Ev.loc rfl) Es.nil) (kk_fn (by k_is)) (all1 fun v e => e ▸ pc_ctoi ((r.deeper _).less (by decide)) hv)) Ev.int c_le c_le) fun v h' hV F => ⟨v, rfl, hV, F.ext⟩
def j_islower (n : Int) : Bool := (decide (97 ≤ n) && decide (n ≤ 122))
theorem pc_islower {v : Value} {n : Int} (r : Room A 2) (hv : CodeIs n v) : Pc prog w (KK w) A (.ref 119) [v] (IsB (j_islower n)) := by
  refine Pc.of_body (binds := [(PySem.Str.ofString "c", v)]) r (kk_look (by k_is)) (kk_code (by k_is)) rfl rfl rfl rfl (fun h₀ L => ?_)
  exact Ex.ret (Ev.chain Ev.int (Ev.callDef Fm.okk (Ev.global Fm.okk (g_ctoi w)) (Es.cons (Ev.loc rfl) Es.nil) (kk_fn (by k_is)) (all1 fun v e => e ▸ pc_ctoi ((r.deeper _).less (by decide)) hv)) Ev.int c_le c_le) fun v h' hV F => ⟨v, rfl, hV, F.ext⟩
def j_isprint (n : Int) : Bool := (decide (32 ≤ n) && decide (n ≤ 126))
theorem pc_isprint {v : Value} {n : Int} (r : Room A 2) (hv : CodeIs n v) : Pc prog w (KK w) A (.ref 126) [v] (IsB (j_isprint n)) := by
  refine Pc.of_body (binds := [(PySem.Str.ofString "c", v)]) r (kk_look (by k_is)) (kk_code (by k_is)) rfl rfl rfl rfl (fun h₀ L => ?_)
  exact Ex.ret (Ev.chain Ev.int (Ev.callDef Fm.okk (Ev.global Fm.okk (g_ctoi w)) (Es.cons (Ev.loc rfl) Es.nil) (kk_fn (by k_is)) (all1 fun v e => e ▸ pc_ctoi ((r.deeper _).less (by decide)) hv)) Ev.int c_le c_le) fun v h' hV F => ⟨v, rfl, hV, F.ext⟩
def j_isspace (n : Int) : Bool := ([9, 10, 11, 12, 13, 32] : List Int).any (· == n)
theorem pc_isspace {v : Value} {n : Int} (r : Room A 2) (hv : CodeIs n v) : Pc prog w (KK w) A (.ref 140) [v] (IsB (j_isspace n)) := by
  refine Pc.of_body (binds := [(PySem.Str.ofString "c", v)]) r (kk_look (by k_is)) (kk_code (by k_is)) rfl rfl rfl rfl (fun h₀ L => ?_)
  exact Ex.ret (Ev.inTuple Fm.okk (Ev.callDef Fm.okk (Ev.global Fm.okk (g_ctoi w)) (Es.cons (Ev.loc rfl) Es.nil) (kk_fn (by k_is)) (all1 fun v e => e ▸ pc_ctoi ((r.deeper _).less (by decide)) hv)) (Es.cons Ev.int (Es.cons Ev.int (Es.cons Ev.int (Es.cons Ev.int (Es.cons Ev.int (Es.cons Ev.int Es.nil)))))) (fun vs e => ints_of_6 vs e) (by decide)) fun v h' hV F => ⟨v, rfl, hV, F.ext⟩
def j_isupper (n : Int) : Bool := (decide (65 ≤ n) && decide (n ≤ 90))
theorem pc_isupper {v : Value} {n : Int} (r : Room A 2) (hv : CodeIs n v) : Pc prog w (KK w) A (.ref 147) [v] (IsB (j_isupper n)) := by
  refine Pc.of_body (binds := [(PySem.Str.ofString "c", v)]) r (kk_look (by k_is)) (kk_code (by k_is)) rfl rfl rfl rfl (fun h₀ L => ?_)
  exact Ex.ret (Ev.chain Ev.int (Ev.callDef Fm.okk (Ev.global Fm.okk (g_ctoi w)) (Es.cons (Ev.loc rfl) Es.nil) (kk_fn (by k_is)) (all1 fun v e => e ▸ pc_ctoi ((r.deeper _).less (by decide)) hv)) Ev.int c_le c_le) fun v h' hV F => ⟨v, rfl, hV, F.ext⟩
def j_isxdigit (n : Int) : Bool := (j_isdigit n || ((decide (65 ≤ n) && decide (n ≤ 70)) || (decide (97 ≤ n) && decide (n ≤ 102))))
theorem pc_isxdigit {v : Value} {n : Int} (r : Room A 3) (hv : CodeIs n v) : Pc prog w (KK w) A (.ref 154) [v] (IsB (j_isxdigit n)) := by
  refine Pc.of_body (binds := [(PySem.Str.ofString "c", v)]) r (kk_look (by k_is)) (kk_code (by k_is)) rfl rfl rfl rfl (fun h₀ L => ?_)
  exact Ex.ret (Ev.or (Ev.callDef Fm.okk (Ev.global Fm.okk (g_isdigit w)) (Es.cons (Ev.loc rfl) Es.nil) (kk_fn (by k_is)) (all1 fun v e => e ▸ pc_isdigit ((r.deeper _).less (by decide)) hv)) fun _ => (Ev.or (Ev.chain Ev.int (Ev.callDef Fm.okk (Ev.global Fm.okk (g_ctoi w)) (Es.cons (Ev.loc rfl) Es.nil) (kk_fn (by k_is)) (all1 fun v e => e ▸ pc_ctoi ((r.deeper _).less (by decide)) hv)) Ev.int c_le c_le) fun _ => (Ev.one (Ev.chain Ev.int (Ev.callDef Fm.okk (Ev.global Fm.okk (g_ctoi w)) (Es.cons (Ev.loc rfl) Es.nil) (kk_fn (by k_is)) (all1 fun v e => e ▸ pc_ctoi ((r.deeper _).less (by decide)) hv)) Ev.int c_le c_le)))) fun v h' hV F => ⟨v, rfl, hV, F.ext⟩
def j_isctrl (n : Int) : Bool := (decide (0 ≤ n) && decide (n < 32))
theorem pc_isctrl {v : Value} {n : Int} (r : Room A 2) (hv : CodeIs n v) : Pc prog w (KK w) A (.ref 161) [v] (IsB (j_isctrl n)) := by
  refine Pc.of_body (binds := [(PySem.Str.ofString "c", v)]) r (kk_look (by k_is)) (kk_code (by k_is)) rfl rfl rfl rfl (fun h₀ L => ?_)
  exact Ex.ret (Ev.chain Ev.int (Ev.callDef Fm.okk (Ev.global Fm.okk (g_ctoi w)) (Es.cons (Ev.loc rfl) Es.nil) (kk_fn (by k_is)) (all1 fun v e => e ▸ pc_ctoi ((r.deeper _).less (by decide)) hv)) Ev.int c_le c_lt) fun v h' hV F => ⟨v, rfl, hV, F.ext⟩
def j_ismeta (n : Int) : Bool := decide (127 < n)
theorem pc_ismeta {v : Value} {n : Int} (r : Room A 2) (hv : CodeIs n v) : Pc prog w (KK w) A (.ref 168) [v] (IsB (j_ismeta n)) := by
  refine Pc.of_body (binds := [(PySem.Str.ofString "c", v)]) r (kk_look (by k_is)) (kk_code (by k_is)) rfl rfl rfl rfl (fun h₀ L => ?_)
  exact Ex.ret (Ev.cmp (Ev.callDef Fm.okk (Ev.global Fm.okk (g_ctoi w)) (Es.cons (Ev.loc rfl) Es.nil) (kk_fn (by k_is)) (all1 fun v e => e ▸ pc_ctoi ((r.deeper _).less (by decide)) hv)) Ev.int c_gt) fun v h' hV F => ⟨v, rfl, hV, F.ext⟩
def j_isalpha (n : Int) : Bool := (j_isupper n || j_islower n)
theorem pc_isalpha {v : Value} {n : Int} (r : Room A 3) (hv : CodeIs n v) : Pc prog w (KK w) A (.ref 77) [v] (IsB (j_isalpha n)) := by
  refine Pc.of_body (binds := [(PySem.Str.ofString "c", v)]) r (kk_look (by k_is)) (kk_code (by k_is)) rfl rfl rfl rfl (fun h₀ L => ?_)
  exact Ex.ret (Ev.or (Ev.callDef Fm.okk (Ev.global Fm.okk (g_isupper w)) (Es.cons (Ev.loc rfl) Es.nil) (kk_fn (by k_is)) (all1 fun v e => e ▸ pc_isupper ((r.deeper _).less (by decide)) hv)) fun _ => (Ev.one (Ev.callDef Fm.okk (Ev.global Fm.okk (g_islower w)) (Es.cons (Ev.loc rfl) Es.nil) (kk_fn (by k_is)) (all1 fun v e => e ▸ pc_islower ((r.deeper _).less (by decide)) hv)))) fun v h' hV F => ⟨v, rfl, hV, F.ext⟩
def j_isalnum (n : Int) : Bool := (j_isalpha n || j_isdigit n)
theorem pc_isalnum {v : Value} {n : Int} (r : Room A 4) (hv : CodeIs n v) : Pc prog w (KK w) A (.ref 70) [v] (IsB (j_isalnum n)) := by
  refine Pc.of_body (binds := [(PySem.Str.ofString "c", v)]) r (kk_look (by k_is)) (kk_code (by k_is)) rfl rfl rfl rfl (fun h₀ L => ?_)
  exact Ex.ret (Ev.or (Ev.callDef Fm.okk (Ev.global Fm.okk (g_isalpha w)) (Es.cons (Ev.loc rfl) Es.nil) (kk_fn (by k_is)) (all1 fun v e => e ▸ pc_isalpha ((r.deeper _).less (by decide)) hv)) fun _ => (Ev.one (Ev.callDef Fm.okk (Ev.global Fm.okk (g_isdigit w)) (Es.cons (Ev.loc rfl) Es.nil) (kk_fn (by k_is)) (all1 fun v e => e ▸ pc_isdigit ((r.deeper _).less (by decide)) hv)))) fun v h' hV F => ⟨v, rfl, hV, F.ext⟩
def j_ispunct (n : Int) : Bool := (j_isgraph n && (!j_isalnum n))
theorem pc_ispunct {v : Value} {n : Int} (r : Room A 5) (hv : CodeIs n v) : Pc prog w (KK w) A (.ref 133) [v] (IsB (j_ispunct n)) := by
  refine Pc.of_body (binds := [(PySem.Str.ofString "c", v)]) r (kk_look (by k_is)) (kk_code (by k_is)) rfl rfl rfl rfl (fun h₀ L => ?_)
  exact Ex.ret (Ev.and (Ev.callDef Fm.okk (Ev.global Fm.okk (g_isgraph w)) (Es.cons (Ev.loc rfl) Es.nil) (kk_fn (by k_is)) (all1 fun v e => e ▸ pc_isgraph ((r.deeper _).less (by decide)) hv)) fun _ => (Ev.one (Ev.not (Ev.callDef Fm.okk (Ev.global Fm.okk (g_isalnum w)) (Es.cons (Ev.loc rfl) Es.nil) (kk_fn (by k_is)) (all1 fun v e => e ▸ pc_isalnum ((r.deeper _).less (by decide)) hv)) tr_bool))) fun v h' hV F => ⟨v, rfl, hV, F.ext⟩
end
end Mine

open PySem PySem.W PyProof.Rows
namespace Mine
open PySem

/-! bits -/
theorem bAnd (a b : Nat) : Builtin.bitAnd (a : Int) (b : Int) = ((a &&& b : Nat) : Int) := by
  unfold Builtin.bitAnd
  simp
theorem bOr (a b : Nat) : Builtin.bitOr (a : Int) (b : Int) = ((a ||| b : Nat) : Int) := by
  have e1 : ∀ n : Nat, decide ((0 : Int) ≤ Builtin.bitNot (n : Int)) = false := fun n => decide_eq_false (by unfold Builtin.bitNot; omega)
  have e2 : ∀ n : Nat, (Builtin.bitNot (Builtin.bitNot (n : Int))).toNat = n := fun n => by unfold Builtin.bitNot; omega
  unfold Builtin.bitOr Builtin.bitAnd
  rw [e1, e1]
  show Builtin.bitNot (Builtin.bitNot ((((Builtin.bitNot (Builtin.bitNot (a : Int))).toNat ||| (Builtin.bitNot (Builtin.bitNot (b : Int))).toNat : Nat) : Int))) = _
  rw [e2, e2]
  unfold Builtin.bitNot
  omega
theorem and31 (c : Nat) : c &&& 31 = c % 32 := Nat.and_two_pow_sub_one_eq_mod c 5
theorem and127 (c : Nat) : c &&& 127 = c % 128 := Nat.and_two_pow_sub_one_eq_mod c 7
theorem and128s : ∀ x : Nat, x < 256 → x &&& 128 = if 127 < x then 128 else 0 := by decide +kernel
theorem or128s : ∀ x : Nat, x < 256 → x ||| 128 = x + 128 * (1 - x / 128 % 2) := by decide +kernel
theorem or32s : ∀ x : Nat, x < 32 → (x ||| 32) = x + 32 := by decide +kernel
theorem and128 (c : Nat) : c &&& 128 = if 127 < c % 256 then 128 else 0 := by
  have h1 : (c &&& 128) % 256 = (c % 256) &&& 128 := by
    have := Nat.and_mod_two_pow (a := c) (b := 128) (n := 8)
    simpa using this
  have h2 : c &&& 128 ≤ 128 := Nat.and_le_right
  rw [← and128s _ (Nat.mod_lt c (by decide)), ← h1]
  omega
theorem or128 (c : Nat) : c ||| 128 = c + 128 * (1 - c / 128 % 2) := by
  have h1 : (c ||| 128) % 256 = (c % 256) ||| 128 := by
    have := Nat.or_mod_two_pow (a := c) (b := 128) (n := 8)
    simpa using this
  have h2 : (c ||| 128) / 256 = c / 256 := by
    have := Nat.or_div_two_pow (a := c) (b := 128) (n := 8)
    simpa using this
  have h3 := or128s _ (Nat.mod_lt c (by decide : 0 < 256))
  have h4 := Nat.div_add_mod (c ||| 128) 256
  omega
/-- the mark of bit 7 -/
def mark (c : Nat) : Nat := c + 128 * (1 - c / 128 % 2)
/-- what unctrl writes of a code -/
def low1 (c : Nat) : List Nat := if c % 128 = 127 then [94, if c = 127 then 63 else 159] else if c % 128 < 32 then [94, c % 128 + 64] else [c % 128]
def shown (c : Nat) : List Nat := if 127 < c % 256 then 33 :: low1 c else low1 c
end Mine

open PySem PySem.W PyProof.Rows
set_option maxRecDepth 100000
namespace Mine
open PySem PySem.W PySem.Calls PyProof.Rows
section
variable {prog : Program} {w : World} {K : Frag} {A : Around} {I : Heap → Prop} {env : Env}

def up (m : Str → Option Value) (x : Str) (v : Value) : Str → Option Value := fun y => if y = x then some v else m y

theorem Ex.set {h₀ : Heap} {L : Addr} {m : Str → Option Value} {x : Str} {e : Expr} {p pos : Pos} {rest : List Stmt} {V : Value → Prop} {F : Flow → Heap → Prop}
    (hx : Ev (model prog w) A (Fm K h₀ L m) env e V) (hr : ∀ v, V v → Ex (model prog w) A (Fm K h₀ L (up m x v)) env rest F)
    (hs : swapsWith e (some (.Name x p)) pos.line env = pure false := by rfl) (hL : env.locals = L := by rfl) (hk : env.scope.kind = .function := by rfl) (hl : env.kindOf x = some .local := by rfl) :
    Ex (model prog w) A (Fm K h₀ L m) env (.Assign [.Name x p] e pos :: rest) F := fun h hh => Run.mk fun s Q E hs' q => by
  refine wpAny_execs_cons (wpAny_Assign_Name (hs := hs) ((hx h hh).bindK hs' fun v h1 k1 r1 => ?_))
  refine wpAny_storeName_local hl (hL ▸ r1.2.1.ns) (fun h' hn hs2 => ?_) (by show (env.scope.kind == .class || (env.scope.kind == .module && env.locals != env.globals)) = false; rw [hk]; rfl)
  exact (hr v r1.1 h' ⟨r1.2.1.set (hL ▸ hn) (hL ▸ hs2), r1.2.2⟩).bindK rfl q
theorem Ex.ex {α : Sort _} {P : α → Heap → Prop} {ss : List Stmt} {F : Flow → Heap → Prop} (k : ∀ x, Ex (model prog w) A (P x) env ss F) : Ex (model prog w) A (fun h => ∃ x, P x h) env ss F :=
  fun h hh => hh.elim fun x p => k x h p
theorem Ex.pull {p : Prop} {P : Heap → Prop} {ss : List Stmt} {F : Flow → Heap → Prop} (k : p → Ex (model prog w) A P env ss F) : Ex (model prog w) A (fun h => p ∧ P h) env ss F :=
  fun h hh => k hh.1 h hh.2

theorem pc_ctrl_s {v : Value} {c : Nat} (r : Room A 2) (hv : IsStr ⟨#[c]⟩ v) : Pc prog w (KK w) A (.ref 175) [v] (IsStr ⟨#[c % 32]⟩) := by
  refine Pc.of_body (binds := [(PySem.Str.ofString "c", v)]) r (kk_look (by k_is)) (kk_code (by k_is)) rfl rfl rfl rfl (fun h₀ L => ?_)
  refine Ex.if_ (b := true) (J := fun _ => False) (Tv.plain (Ev.callB (Ev.builtin Fm.okk (g_isinstance w) boot_isinstance (by decide)) (Es.cons (Ev.loc rfl) (Es.cons (Ev.builtin Fm.okk (g_str w) boot_str (by decide)) Es.nil)) (isinst_str hv)) tr_bool) (fun _ => ?_) (fun e => nomatch e) Ex.absurd
  refine Ex.ret (V := IsStr ⟨#[c % 32]⟩) (Ev.callB (Vs := [IsI (((c % 32 : Nat) : Int))]) (Ev.builtin Fm.okk (g_chr w) boot_chr (by decide)) (Es.cons ?_ Es.nil) (chr_ok (n := ((c % 32 : Nat) : Int)) (by omega) (by omega))) fun v h' hV F => ⟨v, rfl, hV, F.ext⟩
  refine Ev.mono (Ev.bin (Ev.callDef Fm.okk (Ev.global Fm.okk (g_ctoi w)) (Es.cons (Ev.loc rfl) Es.nil) (kk_fn (by k_is)) (all1 fun v e => e ▸ pc_ctoi ((r.deeper _).less (by decide)) (.inr ⟨c, rfl, hv⟩))) Ev.int o_and) fun u hu => ?_
  rwa [show (31 : Int) = ((31 : Nat) : Int) from rfl, bAnd, and31] at hu
theorem pc_ctrl_i {v : Value} {c : Nat} (r : Room A 2) (hv : IsI c v) : Pc prog w (KK w) A (.ref 175) [v] (IsI ((c % 32 : Nat) : Int)) := by
  refine Pc.of_body (binds := [(PySem.Str.ofString "c", v)]) r (kk_look (by k_is)) (kk_code (by k_is)) rfl rfl rfl rfl (fun h₀ L => ?_)
  refine Ex.if_ (b := false) (J := fun _ => False) (Tv.plain (Ev.callB (Ev.builtin Fm.okk (g_isinstance w) boot_isinstance (by decide)) (Es.cons (Ev.loc rfl) (Es.cons (Ev.builtin Fm.okk (g_str w) boot_str (by decide)) Es.nil)) (isinst_int hv)) tr_bool) (fun e => nomatch e) (fun _ => ?_) Ex.absurd
  refine Ex.ret (V := IsI ((c % 32 : Nat) : Int)) (Ev.mono (Ev.bin (Ev.callDef Fm.okk (Ev.global Fm.okk (g_ctoi w)) (Es.cons (Ev.loc rfl) Es.nil) (kk_fn (by k_is)) (all1 fun v e => e ▸ pc_ctoi ((r.deeper _).less (by decide)) (.inl hv))) Ev.int o_and) fun u hu => ?_) fun v h' hV F => ⟨v, rfl, hV, F.ext⟩
  rwa [show (31 : Int) = ((31 : Nat) : Int) from rfl, bAnd, and31] at hu
theorem mark_le {c : Nat} (h : c < 55168) : mark c ≤ 1114111 := by unfold mark; omega
theorem pc_alt_s {v : Value} {c : Nat} (r : Room A 2) (hv : IsStr ⟨#[c]⟩ v) (hc : c < 55168) : Pc prog w (KK w) A (.ref 182) [v] (IsStr ⟨#[mark c]⟩) := by
  refine Pc.of_body (binds := [(PySem.Str.ofString "c", v)]) r (kk_look (by k_is)) (kk_code (by k_is)) rfl rfl rfl rfl (fun h₀ L => ?_)
  refine Ex.if_ (b := true) (J := fun _ => False) (Tv.plain (Ev.callB (Ev.builtin Fm.okk (g_isinstance w) boot_isinstance (by decide)) (Es.cons (Ev.loc rfl) (Es.cons (Ev.builtin Fm.okk (g_str w) boot_str (by decide)) Es.nil)) (isinst_str hv)) tr_bool) (fun _ => ?_) (fun e => nomatch e) Ex.absurd
  have hm := mark_le hc
  refine Ex.ret (V := IsStr ⟨#[mark c]⟩) (Ev.callB (Vs := [IsI (((mark c : Nat) : Int))]) (Ev.builtin Fm.okk (g_chr w) boot_chr (by decide)) (Es.cons ?_ Es.nil) (chr_ok (n := ((mark c : Nat) : Int)) (by omega) (by omega))) fun v h' hV F => ⟨v, rfl, hV, F.ext⟩
  refine Ev.mono (Ev.bin (Ev.callDef Fm.okk (Ev.global Fm.okk (g_ctoi w)) (Es.cons (Ev.loc rfl) Es.nil) (kk_fn (by k_is)) (all1 fun v e => e ▸ pc_ctoi ((r.deeper _).less (by decide)) (.inr ⟨c, rfl, hv⟩))) Ev.int o_or) fun u hu => ?_
  rwa [show (128 : Int) = ((128 : Nat) : Int) from rfl, bOr, or128] at hu
theorem pc_alt_i {v : Value} {c : Nat} (r : Room A 2) (hv : IsI c v) : Pc prog w (KK w) A (.ref 182) [v] (IsI (mark c : Nat)) := by
  refine Pc.of_body (binds := [(PySem.Str.ofString "c", v)]) r (kk_look (by k_is)) (kk_code (by k_is)) rfl rfl rfl rfl (fun h₀ L => ?_)
  refine Ex.if_ (b := false) (J := fun _ => False) (Tv.plain (Ev.callB (Ev.builtin Fm.okk (g_isinstance w) boot_isinstance (by decide)) (Es.cons (Ev.loc rfl) (Es.cons (Ev.builtin Fm.okk (g_str w) boot_str (by decide)) Es.nil)) (isinst_int hv)) tr_bool) (fun e => nomatch e) (fun _ => ?_) Ex.absurd
  refine Ex.ret (V := IsI (mark c : Nat)) (Ev.mono (Ev.bin (Ev.callDef Fm.okk (Ev.global Fm.okk (g_ctoi w)) (Es.cons (Ev.loc rfl) Es.nil) (kk_fn (by k_is)) (all1 fun v e => e ▸ pc_ctoi ((r.deeper _).less (by decide)) (.inl hv))) Ev.int o_or) fun u hu => ?_) fun v h' hV F => ⟨v, rfl, hV, F.ext⟩
  rwa [show (128 : Int) = ((128 : Nat) : Int) from rfl, bOr, or128] at hu
theorem tr_int {n : Int} : ∀ v, IsI n v → Tr (model prog w) A I (truthy v) fun c h' => c = (n != 0) ∧ I h' := fun v e => by
  obtain ⟨t, rfl⟩ := e
  exact ob_of fun s Q E q => P.truthy_int q
end
end Mine

open PySem PySem.W PyProof.Rows
set_option maxRecDepth 100000
namespace Mine
open PySem PySem.W PySem.Calls PyProof.Rows
section
variable {prog : Program} {w : World} {K : Frag} {A : Around} {I : Heap → Prop} {env : Env}

/-- a text of these signs -/
def IsT (l : List Nat) (v : Value) : Prop := IsStr ⟨l.toArray⟩ v
theorem lit {x : Str} {l : List Nat} (h : x = ⟨l.toArray⟩) (v : Value) (e : IsStr x v) : IsT l v := by unfold IsT; rw [← h]; exact e
theorem IsT.app {k l : List Nat} {v : Value} (e : IsStr (⟨k.toArray⟩ ++ ⟨l.toArray⟩) v) : IsT (k ++ l) v := by
  have : (⟨k.toArray⟩ ++ ⟨l.toArray⟩ : Str) = ⟨(k ++ l).toArray⟩ := by
    show Str.mk (k.toArray ++ l.toArray) = _
    rw [List.append_toArray]
  unfold IsT
  rw [← this]; exact e
theorem o_addT {k l : List Nat} (hsz : k.length + l.length ≤ 1000000) (a b : Value) (ha : IsT k a) (hb : IsT l b) : Tr (model prog w) A I (binaryOp .Add a b) fun c h' => IsT (k ++ l) c ∧ I h' :=
  (o_adds (by show k.toArray.size + l.toArray.size ≤ sizeLine; simp only [List.size_toArray]; unfold sizeLine; omega) a b ha hb).mono fun c h' r => ⟨IsT.app r.1, r.2⟩

theorem pc_unctrl {v : Value} {c : Nat} (r : Room A 3) (hc : c < 55296) (hv : CodeIs c v) : Pc prog w (KK w) A (.ref 189) [v] (IsT (shown c)) := by
  refine Pc.of_body (binds := [(PySem.Str.ofString "c", v)]) r (kk_look (by k_is)) (kk_code (by k_is)) rfl rfl rfl rfl (fun h₀ L => ?_)
  refine Ex.set (V := IsI c) (Ev.callDef Fm.okk (Ev.global Fm.okk (g_ctoi w)) (Es.cons (Ev.loc rfl) Es.nil) (kk_fn (by k_is)) (all1 fun v e => e ▸ pc_ctoi ((r.deeper _).less (by decide)) hv)) fun b hb => ?_
  have hbits : ∀ {env : Env}, Ev (model prog w) A (Fm (KK w) h₀ L (up (fun x => List.lookup x [(Str.ofString "c", v)].reverse) (Str.ofString "bits") b)) env (.Constant (.int 127) 0 ⟨0, 0, 0, 0⟩) (IsI 127) := Ev.int
  refine Ex.if_ (b := ((c : Int) == 127)) (J := fun h => ∃ u, IsT (low1 c) u ∧ Fm (KK w) h₀ L (up (up (fun x => List.lookup x [(Str.ofString "c", v)].reverse) (Str.ofString "bits") b) (Str.ofString "rep") u) h)
    (Tv.cmp (Ev.mono (Ev.loc rfl) fun _ e => e ▸ hb) Ev.int c_eq) (fun e => ?_) (fun e => ?_) (Ex.ex fun u => Ex.pull fun hu => ?_)
  · have e1 : c = 127 := by have := beq_iff_eq.mp e; omega
    subst e1
    refine Ex.set (V := IsT (low1 127)) (Ev.mono Ev.str (lit (by decide +kernel))) fun u hu => ?_
    exact Ex.nil fun h F => ⟨u, hu, F⟩
  · have e1 : c ≠ 127 := fun q => by subst q; cases e
    refine Ex.if_ (b := j_isprint ((c % 128 : Nat) : Int)) (J := fun h => ∃ u, IsT (low1 c) u ∧ Fm (KK w) h₀ L (up (up (fun x => List.lookup x [(Str.ofString "c", v)].reverse) (Str.ofString "bits") b) (Str.ofString "rep") u) h)
      (Tv.plain (Ev.callDef (Vs := [IsI ((c % 128 : Nat) : Int)]) Fm.okk (Ev.global Fm.okk (g_isprint w)) (Es.cons (Ev.mono (Ev.bin (Ev.mono (Ev.loc rfl) fun _ e => e ▸ hb) Ev.int o_and) fun u hu => ?_) Es.nil) (kk_fn (by k_is)) (all1 fun v e => pc_isprint ((r.deeper _).less (by decide)) (.inl e))) tr_bool) (fun e => ?_) (fun e => ?_) (Ex.nil fun h F => F)
    · rwa [show (127 : Int) = ((127 : Nat) : Int) from rfl, bAnd, and127] at hu
    · have e2 : 32 ≤ c % 128 ∧ c % 128 ≤ 126 := by
        unfold j_isprint at e
        simp only [Bool.and_eq_true, decide_eq_true_eq] at e
        omega
      have e3 : low1 c = [c % 128] := by unfold low1; rw [if_neg (by omega), if_neg (by omega)]
      refine Ex.set (V := IsT (low1 c)) ?_ fun u hu => Ex.nil fun h F => ⟨u, hu, F⟩
      rw [e3]
      refine Ev.callB (Vs := [IsI (((c % 128 : Nat) : Int))]) (Ev.builtin Fm.okk (g_chr w) boot_chr (by decide)) (Es.cons ?_ Es.nil) (chr_ok (n := ((c % 128 : Nat) : Int)) (by omega) (by omega))
      refine Ev.mono (Ev.bin (Ev.mono (Ev.loc rfl) fun _ e => e ▸ hb) Ev.int o_and) fun u hu => ?_
      rwa [show (127 : Int) = ((127 : Nat) : Int) from rfl, bAnd, and127] at hu
    · have e2 : c % 128 < 32 ∨ c % 128 = 127 := by
        unfold j_isprint at e
        simp only [Bool.and_eq_false_iff, decide_eq_false_iff_not] at e
        omega
      have e3 : low1 c = [94] ++ [(c % 128 ||| 32) + 32] := by
        unfold low1
        rcases e2 with q | q
        · rw [if_neg (by omega), if_pos q, or32s _ q]; rfl
        · rw [if_pos q, if_neg e1, q]; rfl
      refine Ex.set (V := IsT (low1 c)) ?_ fun u hu => Ex.nil fun h F => ⟨u, hu, F⟩
      rw [e3]
      have hb1 : (c % 128 ||| 32) + 32 ≤ 159 := by
        rcases e2 with q | q
        · rw [or32s _ q]; omega
        · rw [q]; decide
      refine Ev.bin (Ev.mono Ev.str (lit (by decide +kernel))) (Ev.callB (Vs := [IsI ((((c % 128 ||| 32) + 32 : Nat) : Int))]) (Ev.builtin Fm.okk (g_chr w) boot_chr (by decide)) (Es.cons ?_ Es.nil) (chr_ok (n := (((c % 128 ||| 32) + 32 : Nat) : Int)) (by omega) (by omega))) (o_addT (by show 1 + 1 ≤ 1000000; decide))
      refine Ev.mono (Ev.bin (Ev.bin (Ev.bin (Ev.mono (Ev.loc rfl) fun _ e => e ▸ hb) Ev.int o_and) Ev.int o_or) Ev.int o_add) fun u hu => ?_
      rw [show (127 : Int) = ((127 : Nat) : Int) from rfl, bAnd, and127, show (32 : Int) = ((32 : Nat) : Int) from rfl, bOr] at hu
      simpa using hu
  · refine Ex.if_ (b := (((c &&& 128 : Nat) : Int) != 0)) (J := fun h => ¬ (127 < c % 256) ∧ Fm (KK w) h₀ L (up (up (fun x => List.lookup x [(Str.ofString "c", v)].reverse) (Str.ofString "bits") b) (Str.ofString "rep") u) h)
      (Tv.plain (Ev.mono (Ev.bin (Ev.mono (Ev.loc rfl) fun _ e => e ▸ hb) Ev.int o_and) fun u hu => ?_) tr_int) (fun e => ?_) (fun e => ?_) (Ex.pull fun hn => ?_)
    · rwa [show (128 : Int) = ((128 : Nat) : Int) from rfl, bAnd] at hu
    · have e2 : 127 < c % 256 := by
        rw [and128] at e
        split at e
        · assumption
        · cases e
      refine Ex.ret (V := IsT ([33] ++ low1 c)) (Ev.bin (Ev.mono Ev.str (lit (by decide +kernel))) (Ev.mono (Ev.loc rfl) fun _ e => e ▸ hu) (o_addT ?_)) fun v h' hV F => ⟨v, rfl, ?_, F.ext⟩
      · unfold low1; (repeat' split) <;> (simp only [List.length_cons, List.length_nil]; omega)
      · unfold shown; rw [if_pos e2]; exact hV
    · refine Ex.nil fun h F => ⟨fun q => ?_, F⟩
      rw [and128, if_pos q] at e
      cases e
    · refine Ex.ret (V := IsT (low1 c)) (Ev.mono (Ev.loc rfl) fun _ e => e ▸ hu) fun v h' hV F => ⟨v, rfl, ?_, F.ext⟩
      unfold shown; rw [if_neg hn]; exact hV
end
end Mine

open PySem PySem.W PyProof.Rows
set_option maxRecDepth 100000
namespace Mine
open PySem PySem.W PySem.Calls PyProof.Rows

/-- all but these stand -/
def ExtB (as : List Addr) (h h' : Heap) : Prop := ∀ b o, b ∉ as → h.get? b = some o → h'.get? b = some o
theorem Ext.toB {h h' : Heap} (x : Ext h h') (as : List Addr) : ExtB as h h' := fun b o _ e => x b o e
theorem ExtB.trans {as : List Addr} {h h' h'' : Heap} (x : ExtB as h h') (y : ExtB as h' h'') : ExtB as h h'' := fun b o n e => y b o n (x b o n e)
theorem ExtB.nil {h h' : Heap} (x : ExtB [] h h') : Ext h h' := fun b o e => x b o (by simp) e

abbrev Ledger := List (Addr × (Obj → Prop))
def ads (led : Ledger) : List Addr := led.map (·.1)

/-- the frame at L over h₀: its locals, its cells, and what it may change (or has made): the ledger -/
structure St (K : Frag) (h₀ : Heap) (L : Addr) (cs : List (Str × Addr)) (m cm : Str → Option Value) (led : Ledger) (h : Heap) : Prop where
  fr : Fr h₀ L h m
  cl : Cl L cs h cm
  wd : Wd K h₀
  ld : ∀ p ∈ led, (∃ o, h.get? p.1 = some o ∧ p.2 o) ∧ p.1 ≠ L ∧ h₀.get? p.1 = none ∧ ∀ x ∈ cs, p.1 ≠ x.2
  nd : (ads led).Nodup
  nn : (cs.map (·.1)).Nodup

section
variable {K : Frag} {h₀ h h' : Heap} {L : Addr} {cs : List (Str × Addr)} {m cm : Str → Option Value} {led led' : Ledger}
theorem St.okk : Okk K (St K h₀ L cs m cm led) where
  grow := fun h h' S k => ⟨⟨S.fr.ns.keeps k, fun b o e => k b o (S.fr.keep b o e), S.fr.above⟩, S.cl.keeps k, S.wd, fun p hp => by
    obtain ⟨⟨o, ho, hP⟩, r⟩ := S.ld p hp
    exact ⟨⟨o, k _ _ ho, hP⟩, r⟩, S.nd, S.nn⟩
  wd := fun h S => S.wd.ext S.fr.keep
theorem St.wdh (S : St K h₀ L cs m cm led h) : Wd K h := S.wd.ext S.fr.keep
theorem St.base (S : St K h₀ L cs m cm led h) : Ext h₀ h := S.fr.keep
theorem St.has (S : St K h₀ L cs m cm led h) {i : Nat} {a : Addr} {P : Obj → Prop} (hi : led[i]? = some (a, P)) : ∃ o, h.get? a = some o ∧ P o :=
  (S.ld (a, P) (List.mem_of_getElem? hi)).1
theorem St.setL (S : St K h₀ L cs m cm led h) {x : Str} {v : Value} (hn : h'.Ns L (fun y => if y = x then some v else m y)) (hs : Heap.SameBut L h h') : St K h₀ L cs (up m x v) cm led h' :=
  ⟨S.fr.set hn hs, S.cl.sameBut hs (Nat.le_refl _), S.wd, fun p hp => by
    obtain ⟨⟨o, ho, hP⟩, hL, r⟩ := S.ld p hp
    exact ⟨⟨o, (hs.2 _ hL).trans ho, hP⟩, hL, r⟩, S.nd, S.nn⟩
theorem St.setC (S : St K h₀ L cs m cm led h) {x : Str} {c : Addr} {v : Value} (hc : cs.lookup x = some c) (hv : h'.IsCell c (some v)) (hs : Heap.SameBut c h h') : St K h₀ L cs m (up cm x v) led h' := by
  have hLc : L < c := S.cl.above x c (mem_of_lookup hc)
  refine ⟨⟨S.fr.ns.sameBut hs (Nat.ne_of_lt hLc), fun b o e => (hs.2 b (Nat.ne_of_lt (Nat.lt_trans (Nat.lt_of_lt_of_le (Heap.lt_size e) S.fr.above) hLc))).trans (S.fr.keep b o e), S.fr.above⟩, ⟨fun n c' e => ?_, S.cl.apart, S.cl.above⟩, S.wd, fun p hp => ?_, S.nd, S.nn⟩
  · by_cases hn : n = x
    · subst hn; rw [hc] at e; cases e; unfold up; simpa using hv
    · have hcc : c' ≠ c := fun q => hn (name_of_addr S.cl.apart (mem_of_lookup e) (q ▸ mem_of_lookup hc))
      unfold up
      rw [if_neg hn]
      exact (S.cl.cell n c' e).sameBut hs hcc
  · obtain ⟨⟨o, ho, hP⟩, hL, hb, hx⟩ := S.ld p hp
    exact ⟨⟨o, (hs.2 _ (hx (x, c) (mem_of_lookup hc))).trans ho, hP⟩, hL, hb, hx⟩
/-- a new object -/
theorem St.add (S : St K h₀ L cs m cm led h) {l : Addr} {o : Obj} {P : Obj → Prop} (k : Ext h h') (hl : h.get? l = none) (ho : h'.get? l = some o) (hP : P o) : St K h₀ L cs m cm ((l, P) :: led) h' := by
  have S' := St.okk.grow _ _ S k
  have no : ∀ a, (∃ o, h.get? a = some o) → l ≠ a := fun a ⟨o, e⟩ q => by rw [q, e] at hl; cases hl
  refine ⟨S'.fr, S'.cl, S'.wd, fun p hp => ?_, ?_, S.nn⟩
  · rcases List.mem_cons.mp hp with rfl | hp
    · obtain ⟨oL, _, _, hL, _⟩ := S.fr.ns
      refine ⟨⟨o, ho, hP⟩, no L ⟨oL, hL⟩, ?_, fun x hx => ?_⟩
      · cases q : h₀.get? l with
        | none => rfl
        | some o' => have := S.fr.keep _ _ q; rw [hl] at this; cases this
      · obtain ⟨oc, hc, _⟩ := S.cl.cell x.1 x.2 (lookup_of_mem_nodup S.nn hx)
        exact no x.2 ⟨oc, hc⟩
    · exact S'.ld p hp
  · show (l :: ads led).Nodup
    refine List.nodup_cons.mpr ⟨fun hm => ?_, S.nd⟩
    obtain ⟨p, hp, e⟩ := List.mem_map.mp hm
    exact no p.1 (let ⟨⟨o, ho, _⟩, _⟩ := S.ld p hp; ⟨o, ho⟩) e.symm
/-- fewer, or told otherwise -/
theorem St.sub (S : St K h₀ L cs m cm led h) (hs : ∀ p ∈ led', ∃ q ∈ led, p.1 = q.1 ∧ ∀ o, q.2 o → p.2 o) (hn : (ads led').Nodup) : St K h₀ L cs m cm led' h :=
  ⟨S.fr, S.cl, S.wd, fun p hp => by
    obtain ⟨q, hq, e, k⟩ := hs p hp
    obtain ⟨⟨o, ho, hP⟩, r⟩ := S.ld q hq
    rw [e]
    exact ⟨⟨o, ho, k o hP⟩, r⟩, hn, S.nn⟩
/-- a part of the ledger is changed, all else stands -/
theorem St.extB {as : List Addr} (S : St K h₀ L cs m cm led h) (k : ExtB as h h') (ha : ∀ a ∈ as, a ∈ ads led) (hs : ∀ p ∈ led', p.1 ∈ ads led ∧ ∃ o, h'.get? p.1 = some o ∧ p.2 o) (hn : (ads led').Nodup) : St K h₀ L cs m cm led' h' := by
  have inl : ∀ a, a ∈ ads led → a ≠ L ∧ h₀.get? a = none ∧ ∀ x ∈ cs, a ≠ x.2 := fun a ha => by
    obtain ⟨p, hp, rfl⟩ := List.mem_map.mp ha
    exact (S.ld p hp).2
  obtain ⟨oL, es, ep, hL, r⟩ := S.fr.ns
  refine ⟨⟨⟨oL, es, ep, k _ _ (fun q => (inl L (ha _ q)).1 rfl) hL, r⟩, fun b o e => k b o (fun q => ?_) (S.fr.keep b o e), S.fr.above⟩, ⟨fun n c e => ?_, S.cl.apart, S.cl.above⟩, S.wd, fun p hp => ?_, hn, S.nn⟩
  · rw [(inl b (ha _ q)).2.1] at e; cases e
  · obtain ⟨o, ho, hd⟩ := S.cl.cell n c e
    exact ⟨o, k _ _ (fun q => (inl c (ha _ q)).2.2 (n, c) (mem_of_lookup e) rfl) ho, hd⟩
  · obtain ⟨h1, o, h2, h3⟩ := hs p hp
    exact ⟨⟨o, h2, h3⟩, inl _ h1⟩
theorem ads_set {led : Ledger} {i : Nat} {a : Addr} {P P' : Obj → Prop} (hi : led[i]? = some (a, P)) : ads (led.set i (a, P')) = ads led := by
  unfold ads
  rw [List.map_set]
  refine List.ext_getElem? fun j => ?_
  rw [List.getElem?_set]
  split
  · rename_i e
    subst e
    have hlt : i < led.length := by
      rcases Nat.lt_or_ge i led.length with q | q
      · exact q
      · rw [List.getElem?_eq_none q] at hi; cases hi
    rw [if_pos (by simpa using hlt), List.getElem?_map, hi]
    rfl
  · rfl
/-- one object of the ledger is changed -/
theorem St.put (S : St K h₀ L cs m cm led h) {i : Nat} {a : Addr} {P P' : Obj → Prop} {o : Obj} (hi : led[i]? = some (a, P)) (hs : Heap.SameBut a h h') (ho : h'.get? a = some o) (hP : P' o) :
    St K h₀ L cs m cm (led.set i (a, P')) h' := by
  have hm : (a, P) ∈ led := List.mem_of_getElem? hi
  have ha : a ∈ ads led := List.mem_map.mpr ⟨_, hm, rfl⟩
  refine S.extB (as := [a]) (fun b o hb e => (hs.2 b (by simpa using hb)).trans e) (fun b hb => by rw [List.mem_singleton.mp hb]; exact ha) (fun p hp => ?_) (by rw [ads_set hi]; exact S.nd)
  refine ⟨by rw [← ads_set (P' := P') hi]; exact List.mem_map.mpr ⟨p, hp, rfl⟩, ?_⟩
  obtain ⟨j, hj, e⟩ := List.getElem_of_mem hp
  have e' : (led.set i (a, P'))[j]? = some p := by rw [← e]; exact List.getElem?_eq_getElem hj
  rw [List.getElem?_set] at e'
  split at e'
  · split at e'
    · cases e'; exact ⟨o, ho, hP⟩
    · cases e'
  · rename_i hij
    obtain ⟨⟨o', ho', hP'⟩, r⟩ := S.ld p (List.mem_of_getElem? e')
    refine ⟨o', (hs.2 _ fun q => hij ?_).trans ho', hP'⟩
    have hi' : (ads led)[i]? = some a := by unfold ads; rw [List.getElem?_map, hi]; rfl
    have hj' : (ads led)[j]? = some a := by unfold ads; rw [List.getElem?_map, e', ← q]; rfl
    exact (List.getElem?_inj (by
      rcases Nat.lt_or_ge i (ads led).length with q | q
      · exact q
      · rw [List.getElem?_eq_none q] at hi'; cases hi') S.nd).mp (hi'.trans hj'.symm)
end

section
variable {prog : Program} {w : World} {K : Frag} {A : Around} {env : Env} {h₀ : Heap} {L : Addr} {cs : List (Str × Addr)} {m cm : Str → Option Value} {led : Ledger}
theorem Ev.locS {x : Str} {pos : Pos} {v : Value} (hm : m x = some v) (hL : env.locals = L := by rfl)
    (hk : env.scope.kind = .function := by rfl) (hl : env.kindOf x = some .local := by rfl) (hd : (x == ("__debug__" : Str)) = false := by decide) :
    Ev (model prog w) A (St K h₀ L cs m cm led) env (.Name x pos) (IsV v) := Ev.local (fun _ S => ⟨m, v, hL ▸ S.fr.ns, hm, rfl⟩) hk hl hd
theorem Ev.cellS {x : Str} {pos : Pos} {v : Value} {c : Addr} (hm : cm x = some v) (hc : cs.lookup x = some c) (hL : env.cells = cs := by rfl)
    (hk : env.scope.kind = .function := by rfl) (hl : env.kindOf x = some .cell := by rfl) (hd : (x == ("__debug__" : Str)) = false := by decide) :
    Ev (model prog w) A (St K h₀ L cs m cm led) env (.Name x pos) (IsV v) := fun h S => Run.mk fun s Q E hs q => by
  subst hs
  exact wpAny_Name (wpAny_loadName_cell hk hl (hL ▸ hc) (hm ▸ S.cl.cell x c hc) (q v s.heap s.toks ⟨rfl, S⟩)) hd
/-- a store into a local -/
theorem Ex.setS {α : Sort _} {C : α → Value → Prop} {led' : α → Ledger} {x : Str} {e : Expr} {p pos : Pos} {rest : List Stmt} {F : Flow → Heap → Prop}
    (hx : Tr (model prog w) A (St K h₀ L cs m cm led) (eval e env) fun v h' => ∃ y, C y v ∧ St K h₀ L cs m cm (led' y) h') (hr : ∀ y v, C y v → Ex (model prog w) A (St K h₀ L cs (up m x v) cm (led' y)) env rest F)
    (hs : swapsWith e (some (.Name x p)) pos.line env = pure false := by rfl) (hL : env.locals = L := by rfl) (hk : env.scope.kind = .function := by rfl) (hl : env.kindOf x = some .local := by rfl) :
    Ex (model prog w) A (St K h₀ L cs m cm led) env (.Assign [.Name x p] e pos :: rest) F := fun h hh => Run.mk fun s Q E hs' q => by
  refine wpAny_execs_cons (wpAny_Assign_Name (hs := hs) ((hx h hh).bindK hs' fun v h1 k1 r1 => ?_))
  obtain ⟨y, hy, S⟩ := r1
  refine wpAny_storeName_local hl (hL ▸ S.fr.ns) (fun h' hn hs2 => ?_) (by show (env.scope.kind == .class || (env.scope.kind == .module && env.locals != env.globals)) = false; rw [hk]; rfl)
  exact (hr y v hy h' (S.setL (hL ▸ hn) (hL ▸ hs2))).bindK rfl q
/-- a store into a cell -/
theorem Ex.setC {α : Sort _} {C : α → Value → Prop} {led' : α → Ledger} {x : Str} {c : Addr} {e : Expr} {p pos : Pos} {rest : List Stmt} {F : Flow → Heap → Prop} (hc : cs.lookup x = some c)
    (hx : Tr (model prog w) A (St K h₀ L cs m cm led) (eval e env) fun v h' => ∃ y, C y v ∧ St K h₀ L cs m cm (led' y) h') (hr : ∀ y v, C y v → Ex (model prog w) A (St K h₀ L cs m (up cm x v) (led' y)) env rest F)
    (hs : swapsWith e (some (.Name x p)) pos.line env = pure false := by rfl) (hL : env.cells = cs := by rfl) (hk : env.scope.kind = .function := by rfl) (hl : env.kindOf x = some .cell := by rfl) :
    Ex (model prog w) A (St K h₀ L cs m cm led) env (.Assign [.Name x p] e pos :: rest) F := fun h hh => Run.mk fun s Q E hs' q => by
  refine wpAny_execs_cons (wpAny_Assign_Name (hs := hs) ((hx h hh).bindK hs' fun v h1 k1 r1 => ?_))
  obtain ⟨y, hy, S⟩ := r1
  refine wpAny_storeName_cell hk hl (hL ▸ hc) (S.cl.cell x c hc) fun h' hv hs2 => ?_
  exact (hr y v hy h' (S.setC hc hv hs2)).bindK rfl q
/-- no new object -/
theorem Ev.toS {e : Expr} {V : Value → Prop} (x : Ev (model prog w) A (St K h₀ L cs m cm led) env e V) :
    Tr (model prog w) A (St K h₀ L cs m cm led) (eval e env) fun v h' => ∃ _ : Unit, V v ∧ St K h₀ L cs m cm led h' := Tr.mono x fun _ _ r => ⟨(), r⟩
end
end Mine

open PySem PySem.W PyProof.Rows
set_option maxRecDepth 100000
namespace Mine
open PySem PySem.W PySem.Calls PyProof.Rows

/-- an address that is none of the text's own -/
structure Hi (K : Frag) (a : Addr) : Prop where
  k : K.lookup a = none
  g : a ≠ mainGlobals
  b : a ≠ builtinsNs
  c : a ≠ cStatics
theorem Ns.hides {h : Heap} {a : Addr} {m : Str → Option Value} {as : List Addr} (x : h.Ns a m) (n : a ∉ as) : (hideAll h as).Ns a m :=
  let ⟨o, es, ep, e, r⟩ := x; ⟨o, es, ep, hideAll_get as e n, r⟩
theorem Wd.hides {K : Frag} {h : Heap} {as : List Addr} (x : Wd K h) (hi : ∀ a ∈ as, Hi K a) : Wd K (hideAll h as) := by
  obtain ⟨X, p, l, g, b, T⟩ := x
  refine ⟨fun a o e => hideAll_get as (X a o e) fun q => ?_, p, l, g, b, ⟨Ns.hides T.g fun q => (hi _ q).g rfl, Ns.hides T.b fun q => (hi _ q).b rfl, ?_, T.builtins, T.free⟩⟩
  · rw [(hi a q).k] at e; cases e
  · obtain ⟨mc, h1, h2⟩ := T.nolimit
    exact ⟨mc, Ns.hides h1 fun q => (hi _ q).c rfl, h2⟩

/-- a call of a def: what it asks of the heap, what it leaves -/
def Cn (prog : Program) (w : World) (K : Frag) (A : Around) (f : Value) (args : List Value) (pre : Heap → Prop) (R : Heap → Value → Heap → Prop) : Prop :=
  ∀ h, Wd K h → pre h → Run (model prog w) A (call f args []) h (R h)
/-- how a body ends -/
def Back (fl : Flow) (v : Value) : Prop := fl = .ret v ∨ (fl = .next ∧ v = .none)
section
variable {prog : Program} {w : World} {K : Frag} {A : Around} {env : Env}
theorem Cn.of_body {f : Addr} {args : List Value} {binds : List (Str × Value)} {n : Nat} {mu : Ledger} {pre : Heap → Prop} {R : Heap → Value → Heap → Prop}
    {name qual : Str} {params : Arguments} {body : List Stmt} {scope : Scope} {dV kV doc pm cdv ct oc : Value} {an od : Option Addr} {osl : Array (Option Value)}
    (r : Room A (n + 1)) (ho : K.lookup f = some ⟨oc, od, .func (fnOf name qual params body scope dV kV doc pm an cdv ct), osl⟩) (hcd : codeIn K cdv qual = true)
    (hbind : bindArgs (fnOf name qual params body scope dV kV doc pm an cdv ct) ⟨args, []⟩ = pure binds)
    (hkind : (binds.all fun y => scope.names.lookup y.1 == some .local || scope.names.lookup y.1 == some .cell) = true)
    (hnd : ((cellsFrom 0 scope.names []).map (·.1)).Nodup)
    (hs : (scope.isCoroutine, scope.isGenerator, scope.kind) = (false, false, .function))
    (hmut : ∀ h, pre h → ∀ p ∈ mu, ∃ o, h.get? p.1 = some o ∧ p.2 o) (hhi : ∀ a ∈ ads mu, Hi K a) (hmn : (ads mu).Nodup)
    (h : ∀ (h h₀ : Heap) (L : Addr), Wd K h → pre h → (∀ b o, b ∉ ads mu → h.get? b = some o → h₀.get? b = some o) → h.objs.size = L →
      Ex (model prog w) (A.deeper (envOfC qual scope L f cdv))
        (St K h₀ L (cellsFrom (L + 1) scope.names []) (bindL (envOfC qual scope L f cdv).kindOf binds fun _ => none) (bindC (envOfC qual scope L f cdv).kindOf binds fun _ => none) mu) (envOfC qual scope L f cdv) body
        fun fl h' => ∃ v, Back fl v ∧ R h v h') : Cn prog w K A (.ref f) args pre R := by
  intro h₁ W hp
  refine Run.mk fun s Q E hs' q => ?_
  subst hs'
  injection hs with h1 h2
  injection h2 with h2 h3
  refine wpAny_call (codeAny_call_cells r.room (W.1 _ _ ho) rfl W.nolimit (codeRec_of W.1 hcd) rfl hbind rfl (kindsX hkind _) (fun s₁ X => ?_) h1 h2 h3)
  obtain ⟨g, tk, rfl, hk⟩ := X.done
  have lt : ∀ a ∈ ads mu, ∃ o, s.heap.get? a = some o := fun a ha => by
    obtain ⟨p, hp', rfl⟩ := List.mem_map.mp ha
    obtain ⟨o, e, _⟩ := hmut _ hp p hp'
    exact ⟨o, e⟩
  have S : St K (hideAll s.heap (ads mu)) s.heap.objs.size (cellsFrom (s.heap.objs.size + 1) scope.names []) (bindL (envOfC qual scope s.heap.objs.size f cdv).kindOf binds fun _ => none) (bindC (envOfC qual scope s.heap.objs.size f cdv).kindOf binds fun _ => none) mu g := by
    refine ⟨⟨X.toInCall.ns, fun b o e => hk b o (of_hideAll _ e), Nat.le_of_eq (hideAll_size _ _)⟩, ⟨X.cell, X.apart, X.above⟩, W.hides hhi, fun p hp' => ?_, hmn, ?_⟩
    · obtain ⟨o, e, hP⟩ := hmut _ hp p hp'
      have hlt := Heap.lt_size e
      refine ⟨⟨o, hk _ _ e, hP⟩, Nat.ne_of_lt hlt, hideAll_none _ (List.mem_map.mpr ⟨p, hp', rfl⟩), fun x hx => Nat.ne_of_lt (Nat.lt_trans hlt (X.above x.1 x.2 hx))⟩
    · have := cellsFrom_names scope.names 0 (s.heap.objs.size + 1) [] [] rfl
      exact this ▸ hnd
  refine (h s.heap (hideAll s.heap (ads mu)) s.heap.objs.size W hp (fun b o n e => hideAll_get _ e n) rfl g S).bindK rfl fun fl h' k e => ?_
  obtain ⟨v, hb, hR⟩ := e
  rcases hb with rfl | ⟨rfl, rfl⟩ <;> exact q _ h' k hR
theorem St.out {h₀ h h' : Heap} {L : Addr} {cs : List (Str × Addr)} {m cm : Str → Option Value} {led mu : Ledger} (S : St K h₀ L cs m cm led h') (hB : ∀ b o, b ∉ ads mu → h.get? b = some o → h₀.get? b = some o) : ExtB (ads mu) h h' :=
  fun b o n e => S.fr.keep b o (hB b o n e)
end
end Mine

open PySem PySem.W PyProof.Rows
set_option maxRecDepth 100000
namespace Mine
open PySem PySem.W PySem.Calls PyProof.Rows

/-- a plain list of these values -/
def PL (vs : List Value) (o : Obj) : Prop := ∃ n, o = { cls := .type "list", dict := none, data := .seq vs.toArray n, slots := #[] }
def PLat (h : Heap) (l : Addr) (vs : List Value) : Prop := ∃ n, IsL h l vs.toArray n
theorem PLat.isList {h : Heap} {l : Addr} {vs : List Value} (x : PLat h l vs) : h.IsList l vs.toArray := let ⟨_, e⟩ := x; e.isList
theorem PLat.ext {h h' : Heap} {l : Addr} {vs : List Value} (x : PLat h l vs) (k : Ext h h') : PLat h' l vs := let ⟨n, e⟩ := x; ⟨n, k _ _ e⟩
theorem St.list {K : Frag} {h₀ h : Heap} {L : Addr} {cs : List (Str × Addr)} {m cm : Str → Option Value} {led : Ledger} {i : Nat} {a : Addr} {vs : List Value} (hi : led[i]? = some (a, PL vs)) (S : St K h₀ L cs m cm led h) : PLat h a vs := by
  obtain ⟨o, ho, n, rfl⟩ := S.has hi
  exact ⟨n, ho⟩
def szs (n : Nat) : Prop := n ≤ 1000000
theorem szs.line {n : Nat} (h : szs n) : n ≤ sizeLine := by unfold szs at h; unfold sizeLine; omega

section
variable {prog : Program} {w : World} {K : Frag} {A : Around} {I : Heap → Prop} {env : Env}

theorem len_ok {l : Addr} {vs : List Value} (hl : ∀ h, I h → h.IsList l vs.toArray) (hz : szs vs.length) : ∀ as, AllV [IsR l] as → Tr (model prog w) A I (call (.builtin "len") as []) fun a h' => IsI vs.length a ∧ I h' := by
  refine all1 fun a ha h hh => Run.mk fun s Q E hs q => ?_
  cases ha
  subst hs
  have e : (vs.toArray.size : Int) = (vs.length : Int) := by simp
  have := hz
  unfold szs at this
  exact call_len_list (hl _ hh) (by rw [e]; omega) (e ▸ q _ s.heap _ ⟨⟨_, rfl⟩, hh⟩)
theorem Ev.item {e ix : Expr} {pos : Pos} {l : Addr} {vs : List Value} {k : Int} {u : Value} (x : Ev (model prog w) A I env e (IsR l)) (i : Ev (model prog w) A I env ix (IsI k)) (hl : ∀ h, I h → h.IsList l vs.toArray)
    (hp0 : 0 ≤ k) (hp1 : k < 2 ^ 63) (hu : vs[k.toNat]? = some u) (hsub : ∀ t, subscripted ix false (.ref l) (.int k t) = operate [.ref l, .int k t] (getItem (.ref l) (.int k t)) := by intro _; with_unfolding_all rfl) :
    Ev (model prog w) A I env (.Subscript e ix pos) (IsV u) := fun h hh => Run.mk fun s Q E hs q => by
  refine Subscript_ ((x h hh).bindK hs fun a h1 k1 r1 => ?_)
  obtain ⟨ra, hh1⟩ := r1
  cases ra
  refine (i _ hh1).bindK rfl fun b h2 k2 r2 => ?_
  obtain ⟨⟨t, rfl⟩, hh2⟩ := r2
  have hL := hl _ hh2
  exact tail_any hL.typeIs slot_list_getitem.lookup (wpAny_getItem_list hL hp0 hp1 (by simpa using hu) (q _ _ k2 ⟨rfl, hh2⟩)) (hsub t)
theorem Ev.itemT {e ix : Expr} {pos : Pos} {x : Str} {k : Int} {c : Nat} (ex : Ev (model prog w) A I env e (IsStr x)) (i : Ev (model prog w) A I env ix (IsI k))
    (hp0 : 0 ≤ k) (hp1 : k < 2 ^ 63) (hu : x.cps[k.toNat]? = some c) (hsub : ∀ t u, subscripted ix false (.str x u) (.int k t) = operate [.str x u, .int k t] (getItem (.str x u) (.int k t)) := by intro _ _; with_unfolding_all rfl) :
    Ev (model prog w) A I env (.Subscript e ix pos) (IsStr ⟨#[c]⟩) := fun h hh => Run.mk fun s Q E hs q => by
  refine Subscript_ ((ex h hh).bindK hs fun a h1 k1 r1 => ?_)
  obtain ⟨⟨t, rfl⟩, hh1⟩ := r1
  refine (i _ hh1).bindK rfl fun b h2 k2 r2 => ?_
  obtain ⟨⟨u, rfl⟩, hh2⟩ := r2
  have hk : k.toNat < x.length := by
    rcases Nat.lt_or_ge k.toNat x.cps.size with z | z
    · exact z
    · rw [Array.getElem?_eq_none z] at hu; cases hu
  refine tail_any (typeIs_str _ x t) F.slot_str_getitem.lookup (getItem_str (c := c) ?_ ?_ (q _ _ _ ⟨⟨_, rfl⟩, hh2⟩)) (hsub u t)
  · rw [decide_eq_false (by omega), decide_eq_false (by omega)]; rfl
  · have : seqIndex? k x.length = some k.toNat := by
      have e1 : ¬ k < 0 := by omega
      have e2 : k < (x.length : Int) := by omega
      simp [seqIndex?, e1, hp0, e2]
    rw [this]; exact hu

/-- a new object: I held at h1, ahead of it -/
def Al (I : Heap → Prop) (P : Obj → Prop) (v : Value) (h' : Heap) : Prop := ∃ h1 l o, v = .ref l ∧ I h1 ∧ Ext h1 h' ∧ h1.get? l = none ∧ h'.get? l = some o ∧ P o
theorem Al.st {h₀ : Heap} {L : Addr} {cs : List (Str × Addr)} {m cm : Str → Option Value} {led : Ledger} {P : Obj → Prop} {v : Value} {h' : Heap} (x : Al (St K h₀ L cs m cm led) P v h') :
    ∃ l, v = .ref l ∧ St K h₀ L cs m cm ((l, P) :: led) h' := let ⟨_, l, _, e, S, k, n, g, p⟩ := x; ⟨l, e, S.add k n g p⟩
theorem Al.mono {P P' : Obj → Prop} {v : Value} {h' : Heap} (x : Al I P v h') (k : ∀ o, P o → P' o) : Al I P' v h' := let ⟨a, l, o, e, S, g, n, f, p⟩ := x; ⟨a, l, o, e, S, g, n, f, k o p⟩
theorem push_none (h : Heap) : h.get? h.objs.size = none := by
  cases q : h.get? h.objs.size with
  | none => rfl
  | some o => exact absurd (Heap.lt_size q) (Nat.lt_irrefl _)
theorem push_ext (h : Heap) (o : Obj) : Ext h (h.push o) := fun _ _ e => Heap.get?_push_of_some _ e

theorem Tr.list {elts : List Expr} {pos : Pos} {Vs : List (Value → Prop)} (y : Es (model prog w) A I env elts Vs) (hz : szs Vs.length) : Tr (model prog w) A I (eval (.List elts pos) env) fun v h' => ∃ vs, AllV Vs vs ∧ Al I (PL vs) v h' := fun h hh => Run.mk fun s Q E hs q => by
  refine List_ ((y pos h hh).bindK hs fun vs h1 k1 r1 => ?_)
  have hl : ∀ (Vs : List (Value → Prop)) (vs : List Value), AllV Vs vs → vs.length = Vs.length := by
    intro Vs
    induction Vs with
    | nil => intro vs e; cases vs with | nil => rfl | cons _ _ => exact e.elim
    | cons V Vs ih => intro vs e; cases vs with | nil => exact e.elim | cons v vs => exact congrArg (· + 1) (ih vs e.2)
  have e := hl _ _ r1.1
  refine wpAny_newObj_type (hd := by show vs.toArray.size ≤ sizeLine; rw [List.size_toArray, e]; exact hz.line) ?_
  exact q _ _ k1 ⟨vs, r1.1, h1, _, _, rfl, r1.2, push_ext _ _, push_none _, Heap.get?_push_size _ rfl, 0, rfl⟩
theorem Tr.tuple {elts : List Expr} {k : Nat} {pos : Pos} {Vs : List (Value → Prop)} (y : Es (model prog w) A I env elts Vs) (hz : Vs.length ≤ 100) : Tr (model prog w) A I (eval (.Tuple elts k pos) env) fun v h' => ∃ vs, AllV Vs vs ∧ Al I (fun o => o = { cls := .type "tuple", data := .seq vs.toArray }) v h' := fun h hh => Run.mk fun s Q E hs q => by
  refine Tuple_ ((y pos h hh).bindK hs fun vs h1 k1 r1 => ?_)
  have hl : ∀ (Vs : List (Value → Prop)) (vs : List Value), AllV Vs vs → vs.length = Vs.length := by
    intro Vs
    induction Vs with
    | nil => intro vs e; cases vs with | nil => rfl | cons _ _ => exact e.elim
    | cons V Vs ih => intro vs e; cases vs with | nil => exact e.elim | cons v vs => exact congrArg (· + 1) (ih vs e.2)
  have e := hl _ _ r1.1
  refine wpAny_newObj_type (hd := by show vs.toArray.size ≤ sizeLine; rw [List.size_toArray, e]; unfold sizeLine; omega) ?_
  exact q _ _ k1 ⟨vs, r1.1, h1, _, _, rfl, r1.2, push_ext _ _, push_none _, Heap.get?_push_size _ rfl, rfl⟩
theorem cat_ok {a b : Addr} {vs us : List Value} (ha : ∀ h, I h → PLat h a vs) (hb : ∀ h, I h → PLat h b us) (hz : szs (vs.length + us.length)) (u v : Value) (hu : IsR a u) (hv : IsR b v) :
    Tr (model prog w) A I (binaryOp .Add u v) fun c h' => Al I (PL (vs ++ us)) c h' := fun h hh => Run.mk fun s Q E hs q => by
  cases hu; cases hv
  subst hs
  obtain ⟨n, x⟩ := ha _ hh
  obtain ⟨n2, y⟩ := hb _ hh
  refine P.add_list x y ?_ (by simp only [List.size_toArray]; exact hz.line)
  refine q _ _ s.toks ⟨s.heap, _, _, rfl, hh, push_ext _ _, push_none _, Heap.get?_push_size _ rfl, 0, by simp⟩
theorem Tr.bin {op : Operator} {l r : Expr} {pos : Pos} {V W : Value → Prop} {R : Value → Heap → Prop} (x : Ev (model prog w) A I env l V) (y : Ev (model prog w) A I env r W)
    (o : ∀ a b, V a → W b → Tr (model prog w) A I (binaryOp op a b) R) : Tr (model prog w) A I (eval (.BinOp l op r pos) env) R := fun h hI => Run.mk fun s Q E hs q =>
  wpAny_BinOp ((x h hI).bindK hs fun a h1 k1 r1 => (y h1 r1.2).bindK rfl fun b h2 k2 r2 => (o a b r1.1 r2.1 h2 r2.2).bindK rfl q)

/-! methods of lists -/
theorem Tr.lmeth {o : Expr} {name : Str} {apos pos : Pos} {es : List Expr} {l : Addr} {Vs : List (Value → Prop)} {id : String} {R : Value → Heap → Prop} (ho : Ev (model prog w) A I env o (IsR l)) (hl : ∀ h, I h → ∃ vs, PLat h l vs)
    (slot : Slot "list" name id) (hty : typeOf (.builtin id) = pure (.type "method_descriptor")) (ha : ∀ pos, Tr (model prog w) A I (callWith pos (.builtin id) [.ref l] (backTo pos (starEach es env)) []) R)
    (he : eval (.Call (.Attribute o name apos) es [] pos) env = (do
      let ov ← eval o env
      standAt apos.atName
      let (f, first) ← holding [ov] (getMethod ov name (do return (← importBound o env).getD true))
      callWith pos f first (backTo pos (starEach es env)) []) := by rfl) :
    Tr (model prog w) A I (eval (.Call (.Attribute o name apos) es [] pos) env) R := fun h hh => Run.mk fun s Q E hs q => by
  refine MethodCall_ (he := he) ((ho h hh).bindK hs fun v h1 k1 r1 => ?_)
  obtain ⟨rv, hh1⟩ := r1
  cases rv
  obtain ⟨vs, n, hL⟩ := hl _ hh1
  exact getMethod_builtin ⟨_, hL, rfl⟩ PySem.F.plainAttrs_list slot hty (fun a e => by cases e; exact ⟨_, hL, rfl⟩) ((ha pos h1 hh1).bindK rfl q)
theorem Tr.args1 {pos : Pos} {id : String} {first : List Value} {e : Expr} {J : Value → Heap → Prop} {R : Value → Heap → Prop} (x : Tr (model prog w) A I (eval e env) J) (k : ∀ v, Tr (model prog w) A (J v) (call (.builtin id) (first ++ [v]) []) R)
    (he : starEach [e] env = (false, eval e env) :: starEach [] env := by rfl) : Tr (model prog w) A I (callWith pos (.builtin id) first (backTo pos (starEach [e] env)) []) R := fun h hh => Run.mk fun s Q E hs q =>
  callWith_method1 (he := he) (hplain := rfl) (args_cons (he := he) ((x h hh).bindK hs fun v h1 k1 r1 => args_nil ((k v h1 r1).bindK rfl q)))

theorem append_ok {l : Addr} {vs : List Value} {v : Value} {J : Heap → Prop} (hl : ∀ h, I h → PLat h l vs) (hz : szs vs.length) (k : ∀ h h', I h → Heap.SameBut l h h' → PLat h' l (vs ++ [v]) → J h') :
    Tr (model prog w) A I (call (.builtin "list.append") [.ref l, v] []) fun a h' => a = .none ∧ J h' := fun h hh => Run.mk fun s Q E hs q => by
  subst hs
  obtain ⟨n, x⟩ := hl _ hh
  refine call_meets F.slot_list_append ⟨_, x, rfl⟩ F.entry_list_append (F.args_list_append_2 _ _) (PySem.list_append l vs.toArray n v (by rw [List.size_toArray]; exact hz.line)) ⟨x, ?_⟩
  have y := IsL.update x (·.push v)
  have e : vs.toArray.push v = (vs ++ [v]).toArray := by simp
  rw [e] at y
  exact q _ _ s.toks ⟨rfl, k _ _ hh (Heap.SameBut.update ..) ⟨_, y⟩⟩
theorem extend_ok {l b : Addr} {vs us : List Value} {J : Heap → Prop} (hl : ∀ h, I h → PLat h l vs) (hb : ∀ h, I h → PLat h b us) (hz : szs (vs.length + us.length)) (k : ∀ h h', I h → Heap.SameBut l h h' → PLat h' l (vs ++ us) → J h') :
    Tr (model prog w) A I (call (.builtin "list.extend") [.ref l, .ref b] []) fun a h' => a = .none ∧ J h' := fun h hh => Run.mk fun s Q E hs q => by
  subst hs
  obtain ⟨n, x⟩ := hl _ hh
  obtain ⟨n2, x2⟩ := hb _ hh
  have hz' := hz
  unfold szs at hz'
  refine call_meets F.slot_list_extend ⟨_, x, rfl⟩ F.entry_list_extend (F.args_list_extend_2 _ _) (AutoSeq1.list_extend_list_list_0 l vs.toArray n b us.toArray n2 ?_ (by rw [List.size_toArray]; unfold sizeLine; omega) (by simp only [List.size_toArray]; unfold sizeLine; omega)) ⟨x, x2, ?_⟩
  · intro q
    have e1 : Builtin.List.listTooLong (vs.toArray.size + us.toArray.size) = false := by
      unfold Builtin.List.listTooLong
      simp only [List.size_toArray]
      exact decide_eq_false (by unfold sizeLine; omega)
    rw [e1] at q
    simp at q
  have y := IsL.update x (· ++ us.toArray)
  have e : vs.toArray ++ us.toArray = (vs ++ us).toArray := by simp
  rw [e] at y
  exact q _ _ s.toks ⟨rfl, k _ _ hh (Heap.SameBut.update ..) ⟨_, y⟩⟩
theorem pop0_ok {l : Addr} {v : Value} {vs : List Value} {t : Tok} {J : Heap → Prop} (hl : ∀ h, I h → PLat h l (v :: vs)) (hz : szs (vs.length + 1)) (k : ∀ h h', I h → Heap.SameBut l h h' → PLat h' l vs → J h') :
    Tr (model prog w) A I (call (.builtin "list.pop") [.ref l, .int 0 t] []) fun a h' => a = v ∧ J h' := fun h hh => Run.mk fun s Q E hs q => by
  subst hs
  obtain ⟨n, x⟩ := hl _ hh
  have e0 : seqIndex? 0 (v :: vs).toArray.size = some 0 := by
    unfold seqIndex?
    simp
  refine call_meets F.slot_list_pop ⟨_, x, rfl⟩ F.entry_list_pop (F.args_list_pop_2 _ _) (MeetsSeq.list_pop_at l _ n 0 t 0 v (by decide +kernel) e0 (by simp) (by rw [List.size_toArray]; exact hz.line)) ⟨x, ?_⟩
  have y := IsL.update x (fun xs => xs.eraseIdxIfInBounds 0)
  have e : (v :: vs).toArray.eraseIdxIfInBounds 0 = vs.toArray := by simp
  rw [e] at y
  exact q _ _ s.toks ⟨rfl, k _ _ hh (Heap.SameBut.update ..) ⟨_, y⟩⟩
theorem Ex.expr {e : Expr} {pos : Pos} {rest : List Stmt} {J : Heap → Prop} {F : Flow → Heap → Prop} (x : Tr (model prog w) A I (eval e env) fun v h' => v = .none ∧ J h') (y : Ex (model prog w) A J env rest F)
    (hi : interactive env = false := by rfl) (hs : swapsWith e none pos.line env = pure false := by rfl) : Ex (model prog w) A I env (.Expr e pos :: rest) F :=
  Ex.cons (J := J) (fun h hh => Run.mk fun s Q E hs' q => wpAny_Expr (hi := hi) (hs := hs) ((x h hh).bindK hs' fun v h1 k1 r1 => by
    obtain ⟨rfl, hJ⟩ := r1
    exact q _ h1 k1 hJ)) y
end
end Mine

open PySem PySem.W PyProof.Rows
set_option maxRecDepth 100000
namespace Mine
open PySem PySem.W PySem.Calls PyProof.Rows

/-- what a value gives when it is iterated: n items, the i-th told by P -/
def Src (prog : Program) (w : World) (A : Around) (xv : Value) (h₁ : Heap) (n : Nat) (P : Nat → Value → Prop) : Prop :=
  ∀ (s : Shared) (Q : Value → Shared → Prop) (E : Value → Shared → Prop), s.heap = h₁ →
    (∀ (It : Addr) (T : Nat → Heap → Prop) (h' : Heap) (k : Nat) (fp wr : List Addr), Ext h₁ h' → Walks prog w A It fp wr n P T → T 0 h' → (∀ b ∈ fp, b < h'.objs.size) → (∀ b ∈ wr, h₁.get? b = none) → Q (.ref It) { s with heap := h', toks := k }) →
    wpAny (model prog w) A (pyIter xv) Q E s

section
variable {prog : Program} {w : World} {K : Frag} {A : Around} {I : Heap → Prop} {env : Env}

theorem Src.list {h₁ : Heap} {l : Addr} {vs : List Value} (hh : A.handled = none) (hl : h₁.IsList l vs.toArray) : Src prog w A (.ref l) h₁ vs.length fun i v => vs[i]? = some v := fun s Q E hs q => by
  subst hs
  have ne : l ≠ s.heap.objs.size := by
    obtain ⟨o, ho, _⟩ := hl
    exact Nat.ne_of_lt (Heap.lt_size ho)
  have W := Walks.list (prog := prog) (w := w) hh s.heap.objs.size l ne vs.toArray
  have e : (fun (i : Nat) (v : Value) => vs.toArray[i]? = some v) = fun i v => vs[i]? = some v := by funext i v; simp
  rw [e, List.size_toArray] at W
  refine wpAny_pyIter_list hl (q _ _ _ s.toks _ _ (push_ext _ _) W ⟨⟨_, Heap.get?_push_size _ rfl, rfl, rfl⟩, ?_⟩ (fun b hb => ?_) fun b hb => ?_)
  · obtain ⟨o, ho, r⟩ := hl
    exact ⟨o, Heap.get?_push_of_some _ ho, r⟩
  · rw [Heap.size_push]
    rcases List.mem_cons.mp hb with rfl | hb
    · exact Nat.lt_succ_self _
    · rw [List.mem_singleton.mp hb]
      obtain ⟨o, ho, r⟩ := hl
      exact Nat.lt_succ_of_lt (Heap.lt_size ho)
  · rw [List.mem_singleton.mp hb]; exact push_none _
theorem Src.str {h₁ : Heap} {x : Str} {t : Tok} (hh : A.handled = none) : Src prog w A (.str x t) h₁ x.cps.size (SignAt x) := fun s Q E hs q => by
  subst hs
  refine wpAny_pyIter_str fun o T W h0 => q _ T _ s.toks _ _ (push_ext _ _) (W A hh) h0 (fun b hb => ?_) fun b hb => ?_
  · rw [List.mem_singleton.mp hb, Heap.size_push]; exact Nat.lt_succ_self _
  · rw [List.mem_singleton.mp hb]; exact push_none _

/-- the block of a comprehension: all of h₁ stands, its own variable is x -/
def IC (h₁ : Heap) (C : Addr) (x : Str) (v : Value) (g : Heap) : Prop := Ext h₁ g ∧ (∃ m, g.Ns C m ∧ m x = some v)
theorem IC.okk {h₁ : Heap} {C : Addr} {x : Str} {v : Value} (W : Wd K h₁) : Okk K (IC h₁ C x v) where
  grow := fun _ _ i k => ⟨i.1.trans k, let ⟨m, hn, hm⟩ := i.2; ⟨m, hn.keeps k, hm⟩⟩
  wd := fun _ i => W.ext i.1
theorem Ev.own {h₁ : Heap} {C : Addr} {x : Str} {v : Value} {pos : Pos} (hL : env.locals = C := by rfl) (hk : env.scope.kind = .function := by rfl) (hl : env.kindOf x = some .local := by rfl) (hd : (x == ("__debug__" : Str)) = false := by decide) :
    Ev (model prog w) A (IC h₁ C x v) env (.Name x pos) (IsV v) := Ev.local (fun _ i => let ⟨m, hn, hm⟩ := i.2; ⟨m, v, hL ▸ hn, hm, rfl⟩) hk hl hd
theorem Ev.cellI {x : Str} {pos : Pos} {v : Value} {c : Addr} (hv : ∀ h, I h → h.IsCell c (some v)) (hc : env.cells.lookup x = some c)
    (hk : env.scope.kind = .function := by rfl) (hl : env.kindOf x = some .cell := by rfl) (hd : (x == ("__debug__" : Str)) = false := by decide) :
    Ev (model prog w) A I env (.Name x pos) (IsV v) := fun h hh => Run.mk fun s Q E hs q => by
  subst hs
  exact wpAny_Name (wpAny_loadName_cell hk hl hc (hv _ hh) (q v s.heap s.toks ⟨rfl, hh⟩)) hd

/-- what the tests and the element of a comprehension come to -/
structure Elt (prog : Program) (w : World) (A : Around) (env : Env) (h₁ : Heap) (scope : Scope) (cl : List (Str × Addr)) (x : Str) (ifs : List Expr) (elt : Expr) (P : Nat → Value → Prop) (p : Value → Bool) (F : Value → Value → Prop) : Prop where
  tests : ∀ C i v g, P i v → Ext h₁ g → Tr (model prog w) A (IC g C x v) (forIn ifs true fun c r => if r = true then do let ok ← isTrue c (compEnvC scope cl C env) (eval c (compEnvC scope cl C env)); pure (ForInStep.yield ok) else pure (ForInStep.yield r)) fun ok g' => ok = p v ∧ IC g C x v g'
  elt : ∀ C i v g, P i v → p v = true → Ext h₁ g → Ev (model prog w) A (IC g C x v) (compEnvC scope cl C env) elt (F v)

theorem Elt.quiet {h₁ : Heap} {s₂ : Shared} {scope : Scope} {cl : List (Str × Addr)} {x : Str} {ifs : List Expr} {elt : Expr} {P : Nat → Value → Prop} {p : Value → Bool} {F : Value → Value → Prop} {wr : List Addr}
    (E : Elt prog w A env h₁ scope cl x ifs elt P p F) (k : Ext h₁ s₂.heap) (hw : ∀ b ∈ wr, h₁.get? b = none) : QuietOnC prog w A env scope cl x ifs elt wr P p F s₂ where
  tests := fun C i v s₃ m₃ E' _ hP hn hm hk _ => by
    have k' : Ext h₁ s₃.heap := fun b o e => hk b o (fun q => by rw [hw b q] at e; cases e) (k b o e)
    exact (E.tests C i v s₃.heap hP k' s₃.heap ⟨Ext.refl _, m₃, hn, hm⟩).bindK rfl fun ok h' n r => ⟨r.1, h', n, rfl, r.2.1⟩
  elt := fun C i v s₃ m₃ E' _ hP hp hn hm hk _ => by
    have k' : Ext h₁ s₃.heap := fun b o e => hk b o (fun q => by rw [hw b q] at e; cases e) (k b o e)
    exact (E.elt C i v s₃.heap hP hp k' s₃.heap ⟨Ext.refl _, m₃, hn, hm⟩).bindK rfl fun y h' n r => ⟨r.1, h', n, rfl, r.2.1⟩

theorem Tr.comp {elt iter : Expr} {x : Str} {px : Pos} {ifs : List Expr} {scope : Scope} {cl : List (Str × Addr)} {pos : Pos} {n : Nat} {P : Nat → Value → Prop} {p : Value → Bool} {F : Value → Value → Prop}
    (hsrc : Tr (model prog w) A I (eval iter env) fun xv h₁ => I h₁ ∧ Src prog w A xv h₁ n P ∧ Elt prog w A env h₁ scope cl x ifs elt P p F) (hz : n ≤ 1000000)
    (hclos : closureFor scope env = pure cl) (hs : ∀ x, foldedSetIterable iter env x = pure x := by intro _; rfl) (hcell : ∀ y ∈ scope.names, y.2 ≠ .cell := by decide) (hkind : scope.kind = .function := by rfl)
    (hnames : ∀ y ∈ scope.names, y.2 = .local → scope.names.lookup y.1 = some .local := by decide) (hx : scope.names.lookup x = some .local := by rfl) :
    Tr (model prog w) A I (eval (.ListComp elt [⟨.Name x px, iter, ifs, 0⟩] scope pos) env) fun v h' => ∃ us vs : List Value, us.length = n ∧ (∀ j u, us[j]? = some u → P j u) ∧ Paired F (us.filter p) vs ∧ Al I (PL vs) v h' := fun h hI => Run.mk fun s Q E hs' q => by
  refine wpAny_ListComp_free p F hclos hcell hkind hnames hx ((hsrc h hI).bindK hs' fun xv h₁ k₁ r => ?_) hs
  obtain ⟨hI₁, S, El⟩ := r
  refine S _ _ _ rfl fun It T h' k fp wr hE W h0 hfp hwr => ?_
  refine ⟨It, fp, wr, n, P, T, rfl, W, by unfold sizeLine; omega, h0, hfp, El.quiet hE hwr, fun D h'' tk ys vs hD hl hpl hlen hP hF hk => ?_⟩
  refine q _ _ tk ⟨vs, ys.toList, hlen, hP, hF, h₁, D, ?_⟩
  obtain ⟨nn, hpl⟩ := hpl
  have hn : h₁.get? D = none := by
    cases z : h₁.get? D with
    | none => rfl
    | some o => have := hE _ _ z; rw [hD] at this; cases this
  exact ⟨_, rfl, hI₁, fun b o e => hk b o (fun z => by rw [hwr b z] at e; cases e) (hE b o e), hn, hpl, nn, by simp⟩
end

section
variable {prog : Program} {w : World} {K : Frag} {A : Around} {env : Env} {h₀ : Heap} {L : Addr} {cs : List (Str × Addr)} {m cm : Str → Option Value} {led : Ledger}
theorem St.addL {h h' : Heap} (S : St K h₀ L cs m cm led h) {x : Str} {v : Value} {l : Addr} {o : Obj} {P : Obj → Prop} (hn : h'.Ns L (fun y => if y = x then some v else m y)) (k : ∀ b o, b ≠ L → h.get? b = some o → h'.get? b = some o)
    (hl : h.get? l = none) (ho : h'.get? l = some o) (hP : P o) : St K h₀ L cs (up m x v) cm ((l, P) :: led) h' := by
  have no : ∀ a, (∃ o, h.get? a = some o) → l ≠ a := fun a ⟨o, e⟩ q => by rw [q, e] at hl; cases hl
  obtain ⟨oL, _, _, hL, _⟩ := S.fr.ns
  refine ⟨⟨hn, fun b o e => k b o (Nat.ne_of_lt (Nat.lt_of_lt_of_le (Heap.lt_size e) S.fr.above)) (S.fr.keep b o e), S.fr.above⟩, S.cl.extBut (b := L) (fun b o hb e => k b o hb e) (Nat.le_refl _), S.wd, fun p hp => ?_, ?_, S.nn⟩
  · rcases List.mem_cons.mp hp with rfl | hp
    · refine ⟨⟨o, ho, hP⟩, no L ⟨oL, hL⟩, ?_, fun y hy => ?_⟩
      · cases q : h₀.get? l with
        | none => rfl
        | some o' => have := S.fr.keep _ _ q; rw [hl] at this; cases this
      · obtain ⟨oc, hc, _⟩ := S.cl.cell y.1 y.2 (lookup_of_mem_nodup S.nn hy)
        exact no y.2 ⟨oc, hc⟩
    · obtain ⟨⟨o, ho, hP⟩, hL', r⟩ := S.ld p hp
      exact ⟨⟨o, k _ _ hL' ho, hP⟩, hL', r⟩
  · show (l :: ads led).Nodup
    refine List.nodup_cons.mpr ⟨fun hm => ?_, S.nd⟩
    obtain ⟨p, hp, e⟩ := List.mem_map.mp hm
    exact no p.1 (let ⟨⟨o, ho, _⟩, _⟩ := S.ld p hp; ⟨o, ho⟩) e.symm

/-- a comprehension stored into a local on its own line -/
theorem Ex.setComp {elt iter : Expr} {x y : Str} {px py : Pos} {ifs : List Expr} {scope : Scope} {cl : List (Str × Addr)} {pos spos : Pos} {rest : List Stmt} {n : Nat} {P : Nat → Value → Prop} {p : Value → Bool} {F : Value → Value → Prop} {G : Flow → Heap → Prop}
    (hsrc : Tr (model prog w) A (St K h₀ L cs m cm led) (eval iter env) fun xv h₁ => St K h₀ L cs m cm led h₁ ∧ Src prog w A xv h₁ n P ∧ Elt prog w A env h₁ scope cl x ifs elt P p F) (hz : n ≤ 1000000)
    (hclos : closureFor scope env = pure cl) (hr : ∀ D, ∀ us vs : List Value, us.length = n → (∀ j u, us[j]? = some u → P j u) → Paired F (us.filter p) vs → Ex (model prog w) A (St K h₀ L cs (up m y (.ref D)) cm ((D, PL vs) :: led)) env rest G)
    (hsw : swapsWith (.ListComp elt [⟨.Name x px, iter, ifs, 0⟩] scope pos) (some (.Name y py)) spos.line env = pure true := by rfl)
    (hs : ∀ x, foldedSetIterable iter env x = pure x := by intro _; rfl) (hcell : ∀ y ∈ scope.names, y.2 ≠ .cell := by decide) (hkind : scope.kind = .function := by rfl)
    (hnames : ∀ y ∈ scope.names, y.2 = .local → scope.names.lookup y.1 = some .local := by decide) (hx : scope.names.lookup x = some .local := by rfl)
    (hL : env.locals = L := by rfl) (hk : env.scope.kind = .function := by rfl) (hy : env.kindOf y = some .local := by rfl) :
    Ex (model prog w) A (St K h₀ L cs m cm led) env (.Assign [.Name y py] (.ListComp elt [⟨.Name x px, iter, ifs, 0⟩] scope pos) spos :: rest) G := fun h hI => Run.mk fun s Q E hs' q => by
  refine wpAny_execs_cons (wpAny_Assign_ListComp_free p F hsw hclos hcell hkind hnames hx hy (by rw [hk]; rfl) ((hsrc h hI).bindK hs' fun xv h₁ k₁ r => ?_) hs)
  obtain ⟨S, Sr, El⟩ := r
  refine Sr _ _ _ rfl fun It T h' k fp wr hE W h0 hfp hwr => ?_
  have hLw : env.locals ∉ wr := fun z => by
    obtain ⟨oL, _, _, hLo, _⟩ := S.fr.ns
    have := hwr _ z
    rw [hL, hLo] at this; cases this
  refine ⟨It, fp, wr, n, P, T, m, rfl, W, by unfold sizeLine; omega, h0, hfp, hLw, hL ▸ S.fr.ns.keeps hE, El.quiet hE hwr, fun D h'' tk ys vs hD hl hpl hlen hP hF hn hk2 => ?_⟩
  obtain ⟨nn, hpl⟩ := hpl
  have hn0 : h₁.get? D = none := by
    cases z : h₁.get? D with
    | none => rfl
    | some o => have := hE _ _ z; rw [hD] at this; cases this
  rw [hL] at hn hk2
  have S' := S.addL (P := PL ys.toList) hn (fun b o hb e => hk2 b o hb (fun z => by rw [hwr b z] at e; cases e) (hE b o e)) hn0 hpl ⟨nn, by simp⟩
  exact (hr D vs ys.toList hlen hP hF h'' S').bindK rfl q
end
end Mine

open PySem PySem.W PyProof.Rows
set_option maxRecDepth 100000
namespace Mine
open PySem PySem.W PySem.Calls PyProof.Rows
section
variable {prog : Program} {w : World} {K : Frag} {A : Around} {I : Heap → Prop} {env : Env}

theorem Tr.callT {fe e : Expr} {rest : List Expr} {pos : Pos} {T : String} {Vs : List (Value → Prop)} {R : Value → Heap → Prop} (hf : Ev (model prog w) A I env fe (IsV (.type T)))
    (hes : Es (model prog w) A I env (e :: rest) Vs) (hc : ∀ vs, AllV Vs vs → Tr (model prog w) A I (call (.type T) vs []) R)
    (he : starEach (e :: rest) env = (false, eval e env) :: starEach rest env := by rfl) (hplain : (backTo pos (starEach rest env)).any (·.1) = false := by rfl)
    (hcall : eval (.Call fe (e :: rest) [] pos) env = (do callWith pos (← eval fe env) [] (backTo pos (starEach (e :: rest) env)) (backToKw pos (keywordEach [] env))) := by rfl) :
    Tr (model prog w) A I (eval (.Call fe (e :: rest) [] pos) env) R := fun h hh => Run.mk fun s Q E hs q => by
  refine Call_ (he := hcall) ((hf h hh).bindK hs fun v h1 k1 r1 => ?_)
  obtain ⟨r1, hh1⟩ := r1
  cases r1
  exact PyProof.Rows.callWith_type1 (he := he) (hplain := hplain) ((hes pos h1 hh1).bindK rfl fun vs h2 k2 r2 => (hc vs r2.1 h2 r2.2).bindK rfl q)
theorem Tr.callB {fe e : Expr} {rest : List Expr} {pos : Pos} {id : String} {Vs : List (Value → Prop)} {R : Value → Heap → Prop} (hf : Ev (model prog w) A I env fe (IsV (.builtin id)))
    (hes : Es (model prog w) A I env (e :: rest) Vs) (hc : ∀ vs, AllV Vs vs → Tr (model prog w) A I (call (.builtin id) vs []) R)
    (he : starEach (e :: rest) env = (false, eval e env) :: starEach rest env := by rfl) (hplain : (backTo pos (starEach rest env)).any (·.1) = false := by rfl)
    (hcall : eval (.Call fe (e :: rest) [] pos) env = (do callWith pos (← eval fe env) [] (backTo pos (starEach (e :: rest) env)) (backToKw pos (keywordEach [] env))) := by rfl) :
    Tr (model prog w) A I (eval (.Call fe (e :: rest) [] pos) env) R := fun h hh => Run.mk fun s Q E hs q => by
  refine Call_ (he := hcall) ((hf h hh).bindK hs fun v h1 k1 r1 => ?_)
  obtain ⟨r1, hh1⟩ := r1
  cases r1
  exact callWith_method1 (he := he) (hplain := hplain) ((hes pos h1 hh1).bindK rfl fun vs h2 k2 r2 => (hc vs r2.1 h2 r2.2).bindK rfl q)
/-- one argument that may make objects, of a builtin -/
theorem Tr.callB1 {fe e : Expr} {pos : Pos} {id : String} {J : Value → Heap → Prop} {R : Value → Heap → Prop} (hf : Ev (model prog w) A I env fe (IsV (.builtin id)))
    (hes : Tr (model prog w) A I (eval e env) J) (hc : ∀ v, Tr (model prog w) A (J v) (call (.builtin id) [v] []) R)
    (he : starEach [e] env = (false, eval e env) :: starEach [] env := by rfl)
    (hcall : eval (.Call fe [e] [] pos) env = (do callWith pos (← eval fe env) [] (backTo pos (starEach [e] env)) (backToKw pos (keywordEach [] env))) := by rfl) :
    Tr (model prog w) A I (eval (.Call fe [e] [] pos) env) R := fun h hh => Run.mk fun s Q E hs q => by
  refine Call_ (he := hcall) ((hf h hh).bindK hs fun v h1 k1 r1 => ?_)
  obtain ⟨r1, hh1⟩ := r1
  cases r1
  exact (Tr.args1 (first := []) (he := he) hes hc h1 hh1).bindK rfl q

theorem Tr.callCn {fe e : Expr} {rest : List Expr} {pos : Pos} {f : Addr} {Vs : List (Value → Prop)} {pre : Heap → Prop} {R : Heap → Value → Heap → Prop} (hI : Okk K I) (hf : Ev (model prog w) A I env fe (IsR f))
    (hes : Es (model prog w) A I env (e :: rest) Vs) (hfd : fnIn K f = true) (hp : ∀ h, I h → pre h) (hc : ∀ vs, AllV Vs vs → Cn prog w K A (.ref f) vs pre R)
    (he : starEach (e :: rest) env = (false, eval e env) :: starEach rest env := by rfl)
    (hcall : eval (.Call fe (e :: rest) [] pos) env = (do callWith pos (← eval fe env) [] (backTo pos (starEach (e :: rest) env)) (backToKw pos (keywordEach [] env))) := by rfl) :
    Tr (model prog w) A I (eval (.Call fe (e :: rest) [] pos) env) fun v h' => ∃ h1, I h1 ∧ R h1 v h' := fun h hh => Run.mk fun s Q E hs q => by
  refine Call_ (he := hcall) ((hf h hh).bindK hs fun v h1 k1 r1 => ?_)
  obtain ⟨r1, hh1⟩ := r1
  cases r1
  have hk : ∀ h, I h → ∃ o, h.get? f = some o ∧ o.data = .func (fdAt K f) := fun h i => fd_at hfd (hI.wd _ i).1
  obtain ⟨o, ho, hd⟩ := hk _ hh1
  have same : ∀ h, I h → h.get? f = some o := fun h i => by
    unfold fnIn at hfd
    split at hfd
    · rename_i _ _ _ _ el
      have x1 := (hI.wd _ hh1).1 _ _ el
      have x2 := (hI.wd _ i).1 _ _ el
      rw [ho] at x1
      rw [x2, x1]
    · cases hfd
  refine callWith_function (o := o) (fd := fdAt K f) ?_
  have hx := hes pos h1 hh1
  have ha : backTo pos (starEach (e :: rest) env) = (false, eval e env) :: backTo pos (starEach rest env) := by rw [he]; rfl
  rw [ha] at hx ⊢
  exact evalArgs_plain (hx.bindK rfl fun vs h2 k2 r2 => ⟨⟨same _ r2.2, hd⟩, (hc vs r2.1 h2 (hI.wd _ r2.2) (hp _ r2.2)).bindK rfl fun a h3 k3 r3 => q a h3 k3 ⟨h2, r2.2, r3⟩⟩)
theorem Tr.callCn0 {fe : Expr} {pos : Pos} {f : Addr} {pre : Heap → Prop} {R : Heap → Value → Heap → Prop} (hI : Okk K I) (hf : Ev (model prog w) A I env fe (IsR f))
    (hfd : fnIn K f = true) (hp : ∀ h, I h → pre h) (hc : Cn prog w K A (.ref f) [] pre R)
    (hcall : eval (.Call fe [] [] pos) env = (do callWith pos (← eval fe env) [] (backTo pos (starEach [] env)) (backToKw pos (keywordEach [] env))) := by rfl) :
    Tr (model prog w) A I (eval (.Call fe [] [] pos) env) fun v h' => ∃ h1, I h1 ∧ R h1 v h' := fun h hh => Run.mk fun s Q E hs q => by
  refine Call_ (he := hcall) ((hf h hh).bindK hs fun v h1 k1 r1 => ?_)
  obtain ⟨r1, hh1⟩ := r1
  cases r1
  obtain ⟨o, ho, hd⟩ := fd_at hfd (hI.wd _ hh1).1
  exact callWith_function (o := o) (fd := fdAt K f) (PySem.evalArgs_none ⟨⟨ho, hd⟩, (hc h1 (hI.wd _ hh1) (hp _ hh1)).bindK rfl fun a h3 k3 r3 => q a h3 k3 ⟨h1, hh1, r3⟩⟩)

/-! ranges -/
def RangeAt (h : Heap) (r : Addr) (a b : Int) : Prop := ∃ t u v, IsRange h r a b 1 t u v
theorem RangeAt.ext {h h' : Heap} {r : Addr} {a b : Int} (x : RangeAt h r a b) (k : Ext h h') : RangeAt h' r a b := let ⟨t, u, v, e⟩ := x; ⟨t, u, v, k _ _ e⟩
def Rg (a b : Int) (o : Obj) : Prop := ∃ t u v, o = { cls := .type "range", dict := none, data := .fields #[.int a t, .int b u, .int 1 v], slots := #[] }
theorem range1_ok {b : Int} : ∀ vs, AllV [IsI b] vs → Tr (model prog w) A I (call (.type "range") vs []) fun v h' => Al I (Rg 0 b) v h' := by
  refine all1 fun a ha h hh => Run.mk fun s Q E hs q => ?_
  obtain ⟨t, rfl⟩ := ha
  subst hs
  exact call_range_1 (q _ _ _ ⟨s.heap, _, _, rfl, hh, push_ext _ _, push_none _, Heap.get?_push_size _ rfl, _, _, _, rfl⟩)
theorem range2_ok {a b : Int} : ∀ vs, AllV [IsI a, IsI b] vs → Tr (model prog w) A I (call (.type "range") vs []) fun v h' => Al I (Rg a b) v h' := by
  refine all2 fun u v hu hv h hh => Run.mk fun s Q E hs q => ?_
  obtain ⟨t, rfl⟩ := hu; obtain ⟨t', rfl⟩ := hv
  subst hs
  exact call_range_2 (q _ _ _ ⟨s.heap, _, _, rfl, hh, push_ext _ _, push_none _, Heap.get?_push_size _ rfl, _, _, _, rfl⟩)
theorem Src.range {h₁ : Heap} {r : Addr} {a b : Int} {n : Nat} (hh : A.handled = none) (hr : RangeAt h₁ r a b) (ha : 0 ≤ a) (ha' : a < 2 ^ 40) (hb0 : 0 ≤ b) (hb : b < 2 ^ 40) (hn : (b - a).toNat = n) :
    Src prog w A (.ref r) h₁ n fun (i : Nat) v => IsI (a + (i : Int)) v := fun s Q E hs q => by
  subst hs
  obtain ⟨t, u, v, hr⟩ := hr
  have hsz : Builtin.Range.rangeSize a b 1 = (n : Int) := by
    unfold Builtin.Range.rangeSize
    rw [if_pos (by decide)]
    split
    · rw [Int.ediv_one]; omega
    · omega
  have W := Walks.range (prog := prog) (w := w) hh s.heap.objs.size a 1 n
  have e : (fun (i : Nat) (v : Value) => ∃ t, v = .int (a + i * 1) t) = fun (i : Nat) (v : Value) => IsI (a + (i : Int)) v := by funext i v; unfold IsI; simp
  rw [e] at W
  refine wpAny_pyIter_range hr ?_ (q _ _ _ s.toks _ _ (push_ext _ _) W ?_ (fun b hb => ?_) fun b hb => ?_)
  · exact small_one (by omega) (by omega) (by omega) (by omega)
  · show Heap.get? _ _ = _
    rw [Heap.get?_push_size _ rfl, hsz]
    simp
  · rw [List.mem_singleton.mp hb, Heap.size_push]; exact Nat.lt_succ_self _
  · rw [List.mem_singleton.mp hb]; exact push_none _
end
end Mine

open PySem PySem.W PyProof.Rows
set_option maxRecDepth 100000
namespace Mine
open PySem PySem.W PySem.Calls PyProof.Rows
theorem g_law_judges (w : World) : nsIn (KK w) mainGlobals (PySem.Str.ofString "_law_judges") = some (some (.ref 196)) := kk_ns (by k_is)
theorem g_law_kinds (w : World) : nsIn (KK w) mainGlobals (PySem.Str.ofString "_law_kinds") = some (some (.ref 203)) := kk_ns (by k_is)
theorem g_law_stretches (w : World) : nsIn (KK w) mainGlobals (PySem.Str.ofString "_law_stretches") = some (some (.ref 208)) := kk_ns (by k_is)
theorem g_law_code (w : World) : nsIn (KK w) mainGlobals (PySem.Str.ofString "_law_code") = some (some (.ref 215)) := kk_ns (by k_is)
theorem g_law_word (w : World) : nsIn (KK w) mainGlobals (PySem.Str.ofString "_law_word") = some (some (.ref 220)) := kk_ns (by k_is)
theorem g_law_shown (w : World) : nsIn (KK w) mainGlobals (PySem.Str.ofString "_law_shown") = some (some (.ref 227)) := kk_ns (by k_is)
theorem g_law_due (w : World) : nsIn (KK w) mainGlobals (PySem.Str.ofString "_law_due") = some (some (.ref 232)) := kk_ns (by k_is)
theorem g_law_read (w : World) : nsIn (KK w) mainGlobals (PySem.Str.ofString "_law_read") = some (some (.ref 237)) := kk_ns (by k_is)
section
variable {prog : Program} {w : World} {K : Frag} {A : Around} {I : Heap → Prop} {env : Env}
theorem Al.of {P : Obj → Prop} {v : Value} {h' : Heap} (x : ∃ h1, I h1 ∧ Al (fun g => g = h1) P v h') : Al I P v h' :=
  let ⟨_, i, a, l, o, e, q, r⟩ := x; ⟨a, l, o, e, q ▸ i, r⟩
theorem St.ret0 {h h₀ h' : Heap} {L : Addr} {cs : List (Str × Addr)} {m cm : Str → Option Value} {led : Ledger} {i : Nat} {l : Addr} {P : Obj → Prop} (S : St K h₀ L cs m cm led h') (hi : led[i]? = some (l, P))
    (hB : ∀ b o, b ∉ ads [] → h.get? b = some o → h₀.get? b = some o) : Al (fun g => g = h) P (.ref l) h' := by
  obtain ⟨⟨o, ho, hP⟩, _, hn, _⟩ := S.ld (l, P) (List.mem_of_getElem? hi)
  refine ⟨h, l, o, rfl, rfl, (S.out hB).nil, ?_, ho, hP⟩
  cases q : h.get? l with
  | none => rfl
  | some o' => have := hB l o' (by simp [ads]) q; rw [hn] at this; cases this
theorem Ex.retA {e : Expr} {pos : Pos} {rest : List Stmt} {J : Value → Heap → Prop} {F : Flow → Heap → Prop} (x : Tr (model prog w) A I (eval e env) J) (k : ∀ v h', J v h' → F (.ret v) h') : Ex (model prog w) A I env (.Return (some e) pos :: rest) F := fun h hh => Run.mk fun s Q E hs q =>
  wpAny_execs_cons (wpAny_Return_some ((x h hh).bindK hs fun v h1 k1 r1 => q _ h1 k1 (k v h1 r1)))
theorem Tr.bin2 {op : Operator} {l r : Expr} {pos : Pos} {J : Value → Heap → Prop} {J2 : Value → Value → Heap → Prop} {R : Value → Heap → Prop} (x : Tr (model prog w) A I (eval l env) J) (y : ∀ a, Tr (model prog w) A (J a) (eval r env) (J2 a))
    (o : ∀ a b, Tr (model prog w) A (J2 a b) (binaryOp op a b) R) : Tr (model prog w) A I (eval (.BinOp l op r pos) env) R := fun h hI => Run.mk fun s Q E hs q =>
  wpAny_BinOp ((x h hI).bindK hs fun a h1 k1 r1 => (y a h1 r1).bindK rfl fun b h2 k2 r2 => (o a b h2 r2).bindK rfl q)
theorem Tr.exs {α : Sort _} {β : Type} {P : α → Heap → Prop} {t : Sem β} {R : β → Heap → Prop} (k : ∀ x, Tr (model prog w) A (P x) t R) : Tr (model prog w) A (fun h => ∃ x, P x h) t R := fun h hh => hh.elim fun x p => k x h p
theorem Tr.pull {β : Type} {p : Prop} {P : Heap → Prop} {t : Sem β} {R : β → Heap → Prop} (k : p → Tr (model prog w) A P t R) : Tr (model prog w) A (fun h => p ∧ P h) t R := fun h hh => k hh.1 h hh.2
theorem Tr.cat1 {h₀ : Heap} {L : Addr} {cs : List (Str × Addr)} {m cm : Str → Option Value} {led : Ledger} {e : Expr} {elts : List Expr} {p pos : Pos} {l : Addr} {vs : List Value} {i : Nat} {Vs : List (Value → Prop)}
    (x : Ev (model prog w) A (St K h₀ L cs m cm led) env e (IsR l)) (hi : led[i]? = some (l, PL vs)) (y : Es (model prog w) A (St K h₀ L cs m cm led) env elts Vs) (hz : szs (vs.length + Vs.length)) :
    Tr (model prog w) A (St K h₀ L cs m cm led) (eval (.BinOp e .Add (.List elts p) pos) env) fun v h' => ∃ us, AllV Vs us ∧ ∃ l2 l3, v = .ref l3 ∧ St K h₀ L cs m cm ((l3, PL (vs ++ us)) :: (l2, PL us) :: led) h' := fun h hI => Run.mk fun s Q E hs q => by
  have hz' : vs.length + Vs.length ≤ 1000000 := hz
  refine wpAny_BinOp ((x h hI).bindK hs fun a h1 k1 r1 => ?_)
  obtain ⟨ra, S1⟩ := r1
  cases ra
  refine (Tr.list y (by unfold szs; omega) h1 S1).bindK rfl fun b h2 k2 r2 => ?_
  obtain ⟨us, hus, al⟩ := r2
  obtain ⟨l2, rfl, S2⟩ := al.st
  have hl : us.length = Vs.length := by
    clear al S2 x y hi hz hz' q hI S1
    induction Vs generalizing us with
    | nil => cases us with | nil => rfl | cons _ _ => exact hus.elim
    | cons V Vs ih => cases us with | nil => exact hus.elim | cons v vs => exact congrArg (· + 1) (ih vs hus.2)
  refine (cat_ok (I := St K h₀ L cs m cm ((l2, PL us) :: led)) (vs := vs) (us := us) (fun h S => St.list (i := i + 1) hi S) (fun h S => St.list (i := 0) rfl S) (by unfold szs; omega) _ _ rfl rfl h2 S2).bindK rfl fun c h3 k3 r3 => ?_
  obtain ⟨l3, rfl, S3⟩ := r3.st
  exact q _ h3 k3 ⟨us, hus, l2, l3, rfl, S3⟩
def jads : List Addr := [70, 77, 84, 91, 98, 161, 105, 112, 119, 168, 126, 133, 140, 147, 154]
theorem all_isr : ∀ (as : List Addr) (vs : List Value), AllV (as.map fun a => IsR a) vs → vs = as.map Value.ref
  | [], [], _ => rfl
  | [], _ :: _, e => e.elim
  | _ :: _, [], e => e.elim
  | _ :: as, _ :: vs, e => by rw [List.map_cons, ← all_isr as vs e.2, e.1]
theorem cn_judges (r : Room A 1) : Cn prog w (KK w) A (.ref 196) [] (fun _ => True) fun h v h' => Al (fun g => g = h) (PL (jads.map Value.ref)) v h' := by
  refine Cn.of_body (mu := []) (binds := []) r (kk_look (by k_is)) (kk_code (by k_is)) rfl rfl (by decide) rfl (fun _ _ p hp => nomatch hp) (fun _ hp => nomatch hp) (by decide) fun h h₀ L W _ hB hL => ?_
  refine Ex.setS (C := fun (l : Addr) v => v = .ref l) (led' := fun l => [(l, PL ([70, 77, 84, 91, 98, 161, 105, 112].map Value.ref))]) ((Tr.list (Vs := [70, 77, 84, 91, 98, 161, 105, 112].map fun a => IsR a) (Es.cons (Ev.global St.okk (g_isalnum w)) (Es.cons (Ev.global St.okk (g_isalpha w)) (Es.cons (Ev.global St.okk (g_isascii w)) (Es.cons (Ev.global St.okk (g_isblank w)) (Es.cons (Ev.global St.okk (g_iscntrl w)) (Es.cons (Ev.global St.okk (g_isctrl w)) (Es.cons (Ev.global St.okk (g_isdigit w)) (Es.cons (Ev.global St.okk (g_isgraph w)) Es.nil)))))))) (by unfold szs; decide)).mono fun v h' r => ?_) fun l v hv => ?_
  · obtain ⟨vs, e, a⟩ := r
    have := all_isr _ _ e
    subst this
    exact a.st
  · subst hv
    refine Ex.retA (Tr.cat1 (i := 0) (Vs := [119, 168, 126, 133, 140, 147, 154].map fun a => IsR a) (Ev.locS rfl) rfl (Es.cons (Ev.global St.okk (g_islower w)) (Es.cons (Ev.global St.okk (g_ismeta w)) (Es.cons (Ev.global St.okk (g_isprint w)) (Es.cons (Ev.global St.okk (g_ispunct w)) (Es.cons (Ev.global St.okk (g_isspace w)) (Es.cons (Ev.global St.okk (g_isupper w)) (Es.cons (Ev.global St.okk (g_isxdigit w)) Es.nil))))))) (by unfold szs; decide)) fun v h' r => ⟨v, .inl rfl, ?_⟩
    obtain ⟨us, e, l2, l3, rfl, S⟩ := r
    have := all_isr _ _ e
    subst this
    exact S.ret0 (i := 0) rfl hB
end
end Mine

open PySem PySem.W PyProof.Rows
set_option maxRecDepth 100000
namespace Mine
open PySem PySem.W PySem.Calls PyProof.Rows
theorem fdivN (a b : Nat) : Int.fdiv (a : Int) (b : Int) = ((a / b : Nat) : Int) := by
  rw [Int.fdiv_eq_ediv_of_nonneg _ (by omega)]; omega
theorem fmodN (a b : Nat) : Int.fmod (a : Int) (b : Int) = ((a % b : Nat) : Int) := by
  rw [Int.fmod_eq_emod_of_nonneg _ (by omega)]; omega
section
variable {prog : Program} {w : World} {K : Frag} {A : Around} {I : Heap → Prop} {env : Env}
/-- a natural number -/
abbrev IsN (n : Nat) : Value → Prop := IsI (n : Int)
theorem Ev.nat {n : Nat} {i : Int} {k : Nat} {pos : Pos} (e : i = (n : Int) := by rfl) : Ev (model prog w) A I env (.Constant (.int i) k pos) (IsN n) := e ▸ Ev.int
theorem n_div {x y : Nat} (hy : 0 < y) (hx : x < 2 ^ 30) (hy' : y < 2 ^ 30) (a b : Value) (ha : IsN x a) (hb : IsN y b) : Tr (model prog w) A I (binaryOp .FloorDiv a b) fun c h' => IsN (x / y) c ∧ I h' := by
  have := o_div (prog := prog) (w := w) (A := A) (I := I) (x := x) (y := y) (by omega) (by omega) (by omega) a b ha hb
  rwa [fdivN] at this
theorem n_mod {x y : Nat} (hy : 0 < y) (a b : Value) (ha : IsN x a) (hb : IsN y b) : Tr (model prog w) A I (binaryOp .Mod a b) fun c h' => IsN (x % y) c ∧ I h' := by
  have := o_mod (prog := prog) (w := w) (A := A) (I := I) (x := x) (y := y) (by omega) a b ha hb
  rwa [fmodN] at this
theorem n_add {x y : Nat} (a b : Value) (ha : IsN x a) (hb : IsN y b) : Tr (model prog w) A I (binaryOp .Add a b) fun c h' => IsN (x + y) c ∧ I h' := by
  have := o_add (prog := prog) (w := w) (A := A) (I := I) (x := x) (y := y) a b ha hb
  rwa [← Int.natCast_add] at this
theorem d_eq {x y : Nat} (a b : Value) (ha : IsN x a) (hb : IsN y b) : Tr (model prog w) A I (compareOp .Eq a b) fun c h' => IsB (decide (x = y)) c ∧ I h' := by
  have := c_eq (prog := prog) (w := w) (A := A) (I := I) (x := x) (y := y) a b ha hb
  have e : ((x : Int) == (y : Int)) = decide (x = y) := by
    rw [Bool.eq_iff_iff, beq_iff_eq, decide_eq_true_iff]; omega
  rwa [e] at this
theorem d_lt {x y : Nat} (a b : Value) (ha : IsN x a) (hb : IsN y b) : Tr (model prog w) A I (compareOp .Lt a b) fun c h' => IsB (decide (x < y)) c ∧ I h' := by
  have := c_lt (prog := prog) (w := w) (A := A) (I := I) (x := x) (y := y) a b ha hb
  have e : decide ((x : Int) < (y : Int)) = decide (x < y) := by
    rw [Bool.eq_iff_iff]; simp
  rwa [e] at this
theorem d_gt {x y : Nat} (a b : Value) (ha : IsN x a) (hb : IsN y b) : Tr (model prog w) A I (compareOp .Gt a b) fun c h' => IsB (decide (y < x)) c ∧ I h' := by
  have := c_gt (prog := prog) (w := w) (A := A) (I := I) (x := x) (y := y) a b ha hb
  have e : decide ((y : Int) < (x : Int)) = decide (y < x) := by
    rw [Bool.eq_iff_iff]; simp
  rwa [e] at this
theorem d_le {x y : Nat} (a b : Value) (ha : IsN x a) (hb : IsN y b) : Tr (model prog w) A I (compareOp .LtE a b) fun c h' => IsB (decide (x ≤ y)) c ∧ I h' := by
  have := c_le (prog := prog) (w := w) (A := A) (I := I) (x := x) (y := y) a b ha hb
  have e : decide ((x : Int) ≤ (y : Int)) = decide (x ≤ y) := by
    rw [Bool.eq_iff_iff]; simp
  rwa [e] at this

theorem o_muls {x y : Str} {n : Int} (hok : MulOk x n) (hy : Txt.mul x n = y) (a b : Value) (ha : IsStr x a) (hb : IsI n b) : Tr (model prog w) A I (binaryOp .Mult a b) fun c h' => IsStr y c ∧ I h' := by
  obtain ⟨t, rfl⟩ := ha; obtain ⟨u, rfl⟩ := hb
  exact op_of fun s Q E q => SB.mul hok fun t' k => q _ _ ⟨t', by rw [hy]⟩
theorem o_mulT {x : Str} {c : Nat} {k : Nat} {n : Int} (hx : x = ⟨#[c]⟩) (h0 : n = (k : Int)) (h1 : 1 < k) (h2 : k < 1000) (a b : Value) (ha : IsStr x a) (hb : IsI n b) : Tr (model prog w) A I (binaryOp .Mult a b) fun v h' => IsT (List.replicate k c) v ∧ I h' := by
  subst hx h0
  refine o_muls ⟨by rw [decide_eq_false (by omega), decide_eq_false (by omega)]; rfl, fun _ _ => ?_, fun _ _ => ?_⟩ ?_ a b ha hb
  · show ¬ ((1 : Nat) : Int) > (2 ^ 63 - 1) / (k : Int)
    have := Int.le_ediv_of_mul_le (a := 1) (b := 2 ^ 63 - 1) (c := (k : Int)) (by omega) (by omega)
    omega
  · refine decide_eq_false (?_ : ¬ 1 * ((k : Int)).toNat > sizeLine)
    unfold sizeLine
    omega
  · unfold Txt.mul
    rw [if_neg (by omega), if_neg (by
      show ¬ (((k : Int) == 1 || (1 : Nat) == 0) = true)
      simp; omega)]
    congr 1
    have : ∀ (j : Nat) (acc : Array Nat), (List.replicate j #[c]).foldl (· ++ ·) acc = acc ++ (List.replicate j c).toArray := by
      intro j
      induction j with
      | zero => intro acc; simp
      | succ j ih => intro acc; rw [List.replicate_succ, List.foldl_cons, ih, List.replicate_succ]; apply Array.ext'; simp
    rw [show ((k : Int)).toNat = k from by omega, this]
    simp
theorem c_inT {l : List Nat} {c : Nat} (a b : Value) (ha : IsStr ⟨#[c]⟩ a) (hb : IsT l b) : Tr (model prog w) A I (compareOp .In a b) fun d h' => IsB (decide (c ∈ l)) d ∧ I h' := by
  obtain ⟨t, rfl⟩ := ha; obtain ⟨u, rfl⟩ := hb
  have e := StrLaws.found_one ⟨l.toArray⟩ c
  exact op_of fun s Q E q => PyProof.Rows.in_str (q _ s.toks (by rw [e]; rfl))
theorem min_ok {x y : Int} (hI : Okk K I) (hh : A.handled = none) : ∀ vs, AllV [IsI x, IsI y] vs → Tr (model prog w) A I (call (.builtin "min") vs []) fun v h' => IsI (min x y) v ∧ I h' := by
  refine all2 fun u v hu hv h hi => Run.mk fun s Q E hs q => ?_
  obtain ⟨t, rfl⟩ := hu; obtain ⟨t', rfl⟩ := hv
  subst hs
  refine min_two_ints hh fun h' tk hk => q _ h' tk ⟨?_, hI.grow _ _ hi hk⟩
  split
  · exact ⟨_, by rw [Int.min_eq_right (by omega)]⟩
  · exact ⟨_, by rw [Int.min_eq_left (by omega)]⟩
end
end Mine

open PySem PySem.W PyProof.Rows
set_option maxRecDepth 100000
namespace Mine
open PySem PySem.W PySem.Calls PyProof.Rows
theorem AllV.append : ∀ {Vs Ws : List (Value → Prop)} {vs us : List Value}, AllV Vs vs → AllV Ws us → AllV (Vs ++ Ws) (vs ++ us)
  | [], _, [], _, _, h => h
  | [], _, _ :: _, _, e, _ => e.elim
  | _ :: _, _, [], _, e, _ => e.elim
  | _ :: _, _, _ :: _, _, e, h => ⟨e.1, e.2.append h⟩
theorem AllV.get : ∀ {Vs : List (Value → Prop)} {vs : List Value}, AllV Vs vs → ∀ {i : Nat} {V : Value → Prop}, Vs[i]? = some V → ∃ v, vs[i]? = some v ∧ V v
  | [], _, _, i, V, e => by simp at e
  | _ :: _, [], h, _, _, _ => h.elim
  | _ :: _, v :: _, h, 0, _, e => ⟨v, rfl, by cases e; exact h.1⟩
  | _ :: Vs, _ :: vs, h, i + 1, _, e => by
    obtain ⟨v, a, b⟩ := h.2.get (i := i) (by simpa using e)
    exact ⟨v, by simpa using a, b⟩
theorem AllV.length : ∀ {Vs : List (Value → Prop)} {vs : List Value}, AllV Vs vs → vs.length = Vs.length
  | [], [], _ => rfl
  | [], _ :: _, e => e.elim
  | _ :: _, [], e => e.elim
  | _ :: _, _ :: _, e => congrArg (· + 1) e.2.length
def kindL : List (List Nat) := [[100, 88, 85, 120, 108], [88, 85, 120, 108], [99, 116, 119, 98, 112, 100, 88, 85, 120, 108, 68], [116, 98], [99, 116, 119, 68], [99, 116, 119], [100], [112, 100, 88, 85, 120, 108], [120, 108], [109], [98, 112, 100, 88, 85, 120, 108], [112], [116, 119, 98], [88, 85], [100, 88, 120]]
theorem kind_lit1 : [PySem.Str.ofString "dXUxl", PySem.Str.ofString "XUxl", PySem.Str.ofString "ctwbpdXUxlD", PySem.Str.ofString "tb", PySem.Str.ofString "ctwD", PySem.Str.ofString "ctw", PySem.Str.ofString "d", PySem.Str.ofString "pdXUxl"] = (kindL.take 8).map fun l => (⟨l.toArray⟩ : Str) := by decide +kernel
theorem kind_lit2 : [PySem.Str.ofString "xl", PySem.Str.ofString "m", PySem.Str.ofString "bpdXUxl", PySem.Str.ofString "p", PySem.Str.ofString "twb", PySem.Str.ofString "XU", PySem.Str.ofString "dXx"] = (kindL.drop 8).map fun l => (⟨l.toArray⟩ : Str) := by decide +kernel
section
variable {prog : Program} {w : World} {K : Frag} {A : Around} {I : Heap → Prop} {env : Env}
/-- the list of the kinds -/
def KindsAt (o : Obj) : Prop := ∃ vs, PL vs o ∧ AllV (kindL.map IsT) vs
theorem allT {ks : List Str} {ls : List (List Nat)} {vs : List Value} (e : ks = ls.map fun l => (⟨l.toArray⟩ : Str)) (h : AllV (ks.map IsStr) vs) : AllV (ls.map IsT) vs := by
  subst e
  rw [List.map_map] at h
  exact h
theorem cn_kinds (r : Room A 1) : Cn prog w (KK w) A (.ref 203) [] (fun _ => True) fun h v h' => Al (fun g => g = h) KindsAt v h' := by
  refine Cn.of_body (mu := []) (binds := []) r (kk_look (by k_is)) (kk_code (by k_is)) rfl rfl (by decide) rfl (fun _ _ p hp => nomatch hp) (fun _ hp => nomatch hp) (by decide) fun h h₀ L W _ hB hL => ?_
  refine Ex.setS (C := fun (x : Addr × List Value) v => v = .ref x.1 ∧ AllV ((kindL.take 8).map IsT) x.2) (led' := fun x => [(x.1, PL x.2)]) ((Tr.list (Vs := [PySem.Str.ofString "dXUxl", PySem.Str.ofString "XUxl", PySem.Str.ofString "ctwbpdXUxlD", PySem.Str.ofString "tb", PySem.Str.ofString "ctwD", PySem.Str.ofString "ctw", PySem.Str.ofString "d", PySem.Str.ofString "pdXUxl"].map IsStr) (Es.cons Ev.str (Es.cons Ev.str (Es.cons Ev.str (Es.cons Ev.str (Es.cons Ev.str (Es.cons Ev.str (Es.cons Ev.str (Es.cons Ev.str Es.nil)))))))) (by unfold szs; decide)).mono fun v h' r => ?_) fun x v hv => ?_
  · obtain ⟨vs, e, a⟩ := r
    obtain ⟨l, rfl, S⟩ := a.st
    exact ⟨(l, vs), ⟨rfl, allT kind_lit1 e⟩, S⟩
  · obtain ⟨rfl, hx⟩ := hv
    have hx' := hx.length
    refine Ex.retA (Tr.cat1 (i := 0) (Vs := [PySem.Str.ofString "xl", PySem.Str.ofString "m", PySem.Str.ofString "bpdXUxl", PySem.Str.ofString "p", PySem.Str.ofString "twb", PySem.Str.ofString "XU", PySem.Str.ofString "dXx"].map IsStr) (Ev.locS rfl) rfl (Es.cons Ev.str (Es.cons Ev.str (Es.cons Ev.str (Es.cons Ev.str (Es.cons Ev.str (Es.cons Ev.str (Es.cons Ev.str Es.nil))))))) (by rw [hx']; unfold szs; decide)) fun v h' r => ⟨v, .inl rfl, ?_⟩
    obtain ⟨us, e, l2, l3, rfl, S⟩ := r
    refine (S.ret0 (i := 0) rfl hB).mono fun o ho => ⟨_, ho, ?_⟩
    exact AllV.append hx (allT kind_lit2 e)

def tempt : List Nat := [34, 92, 32, 10, 9, 13, 34, 92, 97, 71, 55, 45, 11, 127, 0, 160]
/-- the code that a number draws -/
def codeOf (n : Nat) : Nat := if n % 4 = 3 then n / 4 % 55040 else tempt.getD (n / 4 % 16) 0
theorem allN : ∀ (ns : List Nat) (vs : List Value), AllV (ns.map fun n => IsN n) vs → ∀ i, i < ns.length → ∃ v, vs[i]? = some v ∧ IsN (ns.getD i 0) v
  | [], _, _, i, h => by simp at h
  | _ :: _, [], e, _, _ => e.elim
  | n :: ns, v :: vs, e, 0, _ => ⟨v, rfl, e.1⟩
  | n :: ns, v :: vs, e, i + 1, h => by
    obtain ⟨u, a, b⟩ := allN ns vs e.2 i (by simpa using h)
    exact ⟨u, by simpa using a, by simpa using b⟩
theorem pc_code {v : Value} {n : Nat} (r : Room A 1) (hn : n < 2 ^ 30) (hv : IsN n v) : Pc prog w (KK w) A (.ref 215) [v] (IsN (codeOf n)) := by
  have hc : Cn prog w (KK w) A (.ref 215) [v] (fun _ => True) fun h v h' => IsN (codeOf n) v ∧ Ext h h' := by
    refine Cn.of_body (mu := []) (binds := [(PySem.Str.ofString "number", v)]) r (kk_look (by k_is)) (kk_code (by k_is)) rfl rfl (by decide) rfl (fun _ _ p hp => nomatch hp) (fun _ hp => nomatch hp) (by decide) fun h h₀ L W _ hB hL => ?_
    refine Ex.setS (C := fun (x : Addr × List Value) v => v = .ref x.1 ∧ AllV (tempt.map fun n => IsN n) x.2) (led' := fun x => [(x.1, PL x.2)]) ((Tr.list (Vs := tempt.map fun n => IsN n) (Es.cons Ev.nat (Es.cons Ev.nat (Es.cons Ev.nat (Es.cons Ev.nat (Es.cons Ev.nat (Es.cons Ev.nat (Es.cons Ev.nat (Es.cons Ev.nat (Es.cons Ev.nat (Es.cons Ev.nat (Es.cons Ev.nat (Es.cons Ev.nat (Es.cons Ev.nat (Es.cons Ev.nat (Es.cons Ev.nat (Es.cons Ev.nat Es.nil)))))))))))))))) (by unfold szs; decide)).mono fun v h' r => ?_) fun x u hu => ?_
    · obtain ⟨vs, e, a⟩ := r
      obtain ⟨l, rfl, S⟩ := a.st
      exact ⟨(l, vs), ⟨rfl, e⟩, S⟩
    · obtain ⟨l, vs⟩ := x
      obtain ⟨rfl, hx⟩ := hu
      obtain ⟨u, hu1, hu2⟩ := allN tempt vs hx (n / 4 % 16) (Nat.mod_lt _ (by decide))
      refine Ex.ret (V := IsN (codeOf n)) (Ev.ife (b := decide (n % 4 = 3)) (Tv.cmp (Ev.bin (Ev.mono (Ev.locS rfl) fun _ e => e ▸ hv) Ev.nat (n_mod (by decide))) Ev.nat d_eq) (fun e => ?_) fun e => ?_) fun v h' hV S => ⟨v, .inl rfl, hV, (S.out hB).nil⟩
      · have e := of_decide_eq_true e
        unfold codeOf
        rw [if_pos e]
        exact Ev.bin (Ev.bin (Ev.mono (Ev.locS rfl) fun _ e => e ▸ hv) Ev.nat (n_div (by decide) hn (by decide))) Ev.nat (n_mod (by decide))
      · have e := of_decide_eq_false e
        unfold codeOf
        rw [if_neg e]
        refine Ev.mono (Ev.item (vs := vs) (k := ((n / 4 % 16 : Nat) : Int)) (Ev.locS rfl) (Ev.bin (Ev.bin (Ev.mono (Ev.locS rfl) fun _ e => e ▸ hv) Ev.nat (n_div (by decide) hn (by decide))) Ev.nat (n_mod (by decide))) (fun h S => (St.list (i := 0) rfl S).isList) (by omega) (by omega) (u := u) (by rw [Int.toNat_natCast]; exact hu1)) fun _ e => e ▸ hu2
  exact fun h W => hc h W trivial
end
end Mine

open PySem PySem.W PyProof.Rows
set_option maxRecDepth 100000
namespace Mine
open PySem PySem.W PySem.Calls PyProof.Rows
/-- these naturals -/
def AllN (ns : List Nat) (vs : List Value) : Prop := AllV (ns.map fun n => IsN n) vs
def NL (ns : List Nat) (o : Obj) : Prop := ∃ vs, PL vs o ∧ AllN ns vs
theorem AllN.append {a b : List Nat} {vs us : List Value} (h : AllN a vs) (k : AllN b us) : AllN (a ++ b) (vs ++ us) := by
  unfold AllN; rw [List.map_append]; exact AllV.append h k
theorem AllN.length {a : List Nat} {vs : List Value} (h : AllN a vs) : vs.length = a.length := by
  rw [AllV.length h, List.length_map]
section
variable {prog : Program} {w : World} {K : Frag} {A : Around} {I : Heap → Prop} {env : Env}
theorem Tr.ife {t e e' : Expr} {pos : Pos} {b : Bool} {R : Value → Heap → Prop} (x : Tv (model prog w) A I env t b) (y : b = true → Tr (model prog w) A I (eval e env) R) (z : b = false → Tr (model prog w) A I (eval e' env) R) :
    Tr (model prog w) A I (eval (.IfExp t e e' pos) env) R := fun h hI => Run.mk fun s Q E hs q =>
  IfExp_ ((x h hI).bindK hs fun v h1 k1 r1 => by
    obtain ⟨rfl, hh⟩ := r1
    cases v with
    | true => exact (y rfl h1 hh).bindK rfl q
    | false => exact (z rfl h1 hh).bindK rfl q)
theorem Tr.nlist {h₀ : Heap} {L : Addr} {cs : List (Str × Addr)} {m cm : Str → Option Value} {led : Ledger} {elts : List Expr} {pos : Pos} {ns : List Nat}
    (y : Es (model prog w) A (St K h₀ L cs m cm led) env elts (ns.map fun n => IsN n)) (hz : szs ns.length := by unfold szs; first | decide | (simp only [List.length_cons, List.length_nil]; omega)) : Tr (model prog w) A (St K h₀ L cs m cm led) (eval (.List elts pos) env) fun v h' => ∃ x : Addr × List Value, (v = .ref x.1 ∧ AllN ns x.2) ∧ St K h₀ L cs m cm ((x.1, PL x.2) :: led) h' :=
  (Tr.list y (by rw [List.length_map]; exact hz)).mono fun v h' r => by
    obtain ⟨vs, e, a⟩ := r
    obtain ⟨l, rfl, S⟩ := a.st
    exact ⟨(l, vs), ⟨rfl, e⟩, S⟩

theorem Tr.cat2 {h₀ : Heap} {L : Addr} {cs : List (Str × Addr)} {m cm : Str → Option Value} {led : Ledger} {e : Expr} {elts : List Expr} {p pos : Pos} {l : Addr} {vs : List Value} {i : Nat} {ns : List Nat}
    (y : Es (model prog w) A (St K h₀ L cs m cm led) env elts (ns.map fun n => IsN n)) (x : ∀ p, Ev (model prog w) A (St K h₀ L cs m cm (p :: led)) env e (IsR l)) (hi : led[i]? = some (l, PL vs)) (hz : szs (ns.length + vs.length)) :
    Tr (model prog w) A (St K h₀ L cs m cm led) (eval (.BinOp (.List elts p) .Add e pos) env) fun v h' => ∃ us, AllN ns us ∧ ∃ l2 l3, v = .ref l3 ∧ St K h₀ L cs m cm ((l3, PL (us ++ vs)) :: (l2, PL us) :: led) h' := fun h hI => Run.mk fun s Q E hs q => by
  have hz' : ns.length + vs.length ≤ 1000000 := hz
  refine wpAny_BinOp ((Tr.nlist y (by unfold szs; omega) h hI).bindK hs fun b h2 k2 r2 => ?_)
  obtain ⟨⟨l2, us⟩, ⟨rfl, hus⟩, S2⟩ := r2
  refine (x _ h2 S2).bindK rfl fun a h1 k1 r1 => ?_
  obtain ⟨ra, S1⟩ := r1
  cases ra
  have hl := hus.length
  refine (cat_ok (I := St K h₀ L cs m cm ((l2, PL us) :: led)) (vs := us) (us := vs) (fun h S => St.list (i := 0) rfl S) (fun h S => St.list (i := i + 1) hi S) (by unfold szs; rw [hl]; omega) _ _ rfl rfl h1 S1).bindK rfl fun c h3 k3 r3 => ?_
  obtain ⟨l3, rfl, S3⟩ := r3.st
  exact q _ h3 k3 ⟨us, hus, l2, l3, rfl, S3⟩

theorem cn_shown {v : Value} {c : Nat} (r : Room A 1) (hv : IsN c v) : Cn prog w (KK w) A (.ref 227) [v] (fun _ => True) fun h v h' => Al (fun g => g = h) (NL (shown c)) v h' := by
  refine Cn.of_body (mu := []) (binds := [(PySem.Str.ofString "code", v)]) r (kk_look (by k_is)) (kk_code (by k_is)) rfl rfl (by decide) rfl (fun _ _ p hp => nomatch hp) (fun _ hp => nomatch hp) (by decide) fun h h₀ L W _ hB hL => ?_
  refine Ex.setS (C := fun (_ : Unit) u => IsN (c % 128) u) (led' := fun _ => []) ((Ev.bin (Ev.mono (Ev.locS rfl) fun _ e => e ▸ hv) Ev.nat (n_mod (by decide))).toS) fun _ low hlow => ?_
  refine Ex.setS (C := fun (x : Addr × List Value) v => v = .ref x.1 ∧ AllN (if c % 128 < 32 then [94, c % 128 + 64] else [c % 128]) x.2) (led' := fun x => [(x.1, PL x.2)])
    (Tr.ife (b := decide (c % 128 < 32)) (Tv.cmp (Ev.mono (Ev.locS rfl) fun _ e => e ▸ hlow) Ev.nat d_lt) (fun e => ?_) (fun e => ?_)) fun x u hu => ?_
  · rw [if_pos (of_decide_eq_true e)]
    exact Tr.nlist (ns := [94, c % 128 + 64]) (Es.cons Ev.nat (Es.cons (Ev.bin (Ev.mono (Ev.locS rfl) fun _ e => e ▸ hlow) Ev.nat n_add) Es.nil))
  · rw [if_neg (of_decide_eq_false e)]
    exact Tr.nlist (ns := [c % 128]) (Es.cons (Ev.mono (Ev.locS rfl) fun _ e => e ▸ hlow) Es.nil)
  obtain ⟨l, vs⟩ := x
  obtain ⟨rfl, hu⟩ := hu
  refine Ex.if_ (b := decide (c % 128 = 127)) (J := fun g => ∃ x : Addr × List Value, AllN (low1 c) x.2 ∧ St (KK w) h₀ L [] (up (up (fun y => if y = PySem.Str.ofString "code" then some v else none) (PySem.Str.ofString "low") low) (PySem.Str.ofString "plain") (.ref x.1)) (fun _ => none) [(x.1, PL x.2)] g)
    (Tv.cmp (Ev.mono (Ev.locS rfl) fun _ e => e ▸ hlow) Ev.nat d_eq) (fun e => ?_) (fun e => ?_) (Ex.ex fun x => Ex.pull fun hx => ?_)
  · have e1 := of_decide_eq_true e
    refine Ex.setS (C := fun (x : Addr × List Value) v => v = .ref x.1 ∧ AllN (low1 c) x.2) (led' := fun x => [(x.1, PL x.2), (l, PL vs)]) ?_ fun x u hx => Ex.nil fun g S => ?_
    · have e2 : low1 c = [94, if c = 127 then 63 else 159] := by unfold low1; rw [if_pos e1]
      rw [e2]
      refine Tr.nlist (ns := [94, if c = 127 then 63 else 159]) (Es.cons Ev.nat (Es.cons (Ev.ife (b := decide (c = 127)) (Tv.cmp (Ev.mono (Ev.locS rfl) fun _ e => e ▸ hv) Ev.nat d_eq) (fun e => ?_) (fun e => ?_)) Es.nil))
      · rw [if_pos (of_decide_eq_true e)]; exact Ev.nat
      · rw [if_neg (of_decide_eq_false e)]; exact Ev.nat
    · obtain ⟨rfl, hx⟩ := hx
      refine ⟨x, hx, ?_⟩
      have S' := S.sub (led' := [(x.1, PL x.2)]) (fun p hp => ⟨_, List.mem_cons_self .., by rw [List.mem_singleton.mp hp], fun o ho => by rw [List.mem_singleton.mp hp]; exact ho⟩) (by simp [ads])
      have e : up (up (up (fun y => if y = PySem.Str.ofString "code" then some v else none) (PySem.Str.ofString "low") low) (PySem.Str.ofString "plain") (.ref l)) (PySem.Str.ofString "plain") (.ref x.1) = up (up (fun y => if y = PySem.Str.ofString "code" then some v else none) (PySem.Str.ofString "low") low) (PySem.Str.ofString "plain") (.ref x.1) := by
        funext y; unfold up; split <;> rfl
      exact e ▸ S'
  · have e1 := of_decide_eq_false e
    refine Ex.nil fun g S => ⟨(l, vs), ?_, S⟩
    unfold low1
    rw [if_neg e1]
    exact hu
  · obtain ⟨l, vs⟩ := x
    refine Ex.retA (Tr.ife (b := decide (127 < c % 256)) (R := fun u g => ∃ led' : Ledger, ∃ l2, u = .ref l2 ∧ St (KK w) h₀ L [] (up (up (fun y => if y = PySem.Str.ofString "code" then some v else none) (PySem.Str.ofString "low") low) (PySem.Str.ofString "plain") (.ref l)) (fun _ => none) ((l2, NL (shown c)) :: led') g) (Tv.cmp (Ev.bin (Ev.mono (Ev.locS rfl) fun _ e => e ▸ hv) Ev.nat (n_mod (by decide))) Ev.nat d_gt) (fun e => ?_) (fun e => ?_)) fun u g r => ?_
    · have e1 := of_decide_eq_true e
      have hl := hx.length
      refine Tr.mono (Tr.cat2 (i := 0) (ns := [33]) (Es.cons Ev.nat Es.nil) (fun p => Ev.locS rfl) rfl ?_) fun u g r => ?_
      · have hll : (low1 c).length ≤ 2 := by
          unfold low1; (repeat' split) <;> simp
        unfold szs
        simp only [List.length_cons, List.length_nil]
        rw [hl]
        omega
      · obtain ⟨us, hus, l2, l3, rfl, S⟩ := r
        refine ⟨[], l3, rfl, S.sub (fun p hp => ⟨_, List.mem_cons_self .., by rw [List.mem_singleton.mp hp], fun o ho => ?_⟩) (by simp [ads])⟩
        rw [List.mem_singleton.mp hp]
        refine ⟨_, ho, ?_⟩
        unfold shown
        rw [if_pos e1]
        exact AllN.append hus hx
    · have e1 := of_decide_eq_false e
      refine Tr.mono (Ev.locS rfl) fun u g r => ⟨[], l, r.1, r.2.sub (fun p hp => ⟨(l, PL vs), List.mem_cons_self .., by rw [List.mem_singleton.mp hp], fun o ho => ?_⟩) (by simp [ads])⟩
      rw [List.mem_singleton.mp hp]
      refine ⟨vs, ho, ?_⟩
      unfold shown
      rw [if_neg e1]
      exact hx
    · obtain ⟨led', l2, rfl, S⟩ := r
      exact ⟨_, .inl rfl, S.ret0 (i := 0) rfl hB⟩
end
end Mine

open PySem PySem.W PyProof.Rows
set_option maxRecDepth 100000
namespace Mine
open PySem PySem.W PySem.Calls PyProof.Rows
/-- the row of stretches -/
def row1 : List Nat := List.replicate 9 99 ++ [116] ++ List.replicate 4 119 ++ List.replicate 18 99 ++ [98] ++ List.replicate 15 112 ++ List.replicate 10 100 ++ List.replicate 7 112 ++ List.replicate 6 88 ++ List.replicate 20 85
def row2 : List Nat := row1 ++ List.replicate 6 112 ++ List.replicate 6 120 ++ List.replicate 20 108 ++ List.replicate 4 112 ++ [68] ++ [109]
theorem row2_length : row2.length = 129 := by decide +kernel
/-- the stretch of a code -/
def stch (x : Int) : Nat := if x < 0 then 45 else row2.getD (min x 128).toNat 0
def AllI (ns : List Int) (vs : List Value) : Prop := AllV (ns.map fun n => IsI n) vs
def SL (cs : List Nat) (o : Obj) : Prop := ∃ vs, PL vs o ∧ AllV (cs.map fun c => IsStr ⟨#[c]⟩) vs
theorem AllV.at {α : Type} {f : α → Value → Prop} : ∀ {l : List α} {vs : List Value}, AllV (l.map f) vs → ∀ {j : Nat} {u : Value}, vs[j]? = some u → ∃ a, l[j]? = some a ∧ f a u
  | [], [], _, j, u, e => by simp at e
  | [], _ :: _, h, _, _, _ => h.elim
  | _ :: _, [], h, _, _, _ => h.elim
  | a :: _, v :: _, h, 0, u, e => by cases e; exact ⟨a, rfl, h.1⟩
  | _ :: l, _ :: vs, h, j + 1, u, e => by
    obtain ⟨b, x, y⟩ := AllV.at (l := l) h.2 (j := j) (by simpa using e)
    exact ⟨b, by simpa using x, y⟩
/-- a comprehension without a test, item by item -/
theorem AllV.comp {α : Type} {f : α → Value → Prop} {F : Value → Value → Prop} {G : α → Value → Prop} : ∀ {l : List α} {us vs : List Value}, AllV (l.map f) us → Paired F us vs → (∀ a u v, f a u → F u v → G a v) → AllV (l.map G) vs
  | [], [], _, _, .nil, _ => trivial
  | _ :: _, _ :: _, _, h, .cons p q, k => ⟨k _ _ _ h.1 p, AllV.comp h.2 q k⟩
  | [], _ :: _, _, h, _, _ => h.elim
  | _ :: _, [], _, h, _, _ => h.elim
theorem AllV.of_get {α : Type} {f : α → Value → Prop} : ∀ {l : List α} {us : List Value}, us.length = l.length → (∀ (j : Nat) (u : Value) (a : α), us[j]? = some u → l[j]? = some a → f a u) → AllV (l.map f) us
  | [], [], _, _ => trivial
  | [], _ :: _, h, _ => by simp at h
  | _ :: _, [], h, _ => by simp at h
  | a :: l, u :: us, h, k => ⟨k 0 u a rfl rfl, AllV.of_get (by simpa using h) fun j u a x y => k (j + 1) u a (by simpa using x) (by simpa using y)⟩
theorem filter_true {us : List Value} : us.filter (fun _ => true) = us := by simp
section
variable {prog : Program} {w : World} {K : Frag} {A : Around} {I : Heap → Prop} {env : Env}
theorem no_tests {C : Addr} {x : Str} {v : Value} {g : Heap} {cenv : Env} : Tr (model prog w) A (IC g C x v) (forIn ([] : List Expr) true fun c r => if r = true then do let ok ← isTrue c cenv (eval c cenv); pure (ForInStep.yield ok) else pure (ForInStep.yield r)) fun ok g' => ok = true ∧ IC g C x v g' :=
  fun h i => Run.pure ⟨rfl, i⟩
theorem one_test {C : Addr} {x : Str} {v : Value} {g : Heap} {cenv : Env} {c : Expr} {b : Bool} (t : Tv (model prog w) A (IC g C x v) cenv c b) : Tr (model prog w) A (IC g C x v) (forIn [c] true fun c r => if r = true then do let ok ← isTrue c cenv (eval c cenv); pure (ForInStep.yield ok) else pure (ForInStep.yield r)) fun ok g' => ok = b ∧ IC g C x v g' := fun h i => by
  rw [List.forIn_cons]
  refine Run.bind (R := fun r g' => r = ForInStep.yield b ∧ IC g C x v g') ?_ fun r g' hr => ?_
  · show Run _ _ ((isTrue c cenv (eval c cenv)) >>= fun ok => pure (ForInStep.yield ok)) _ _
    exact Run.bind (t h i) fun ok g' hr => Run.pure ⟨by rw [hr.1], hr.2⟩
  · obtain ⟨rfl, hi⟩ := hr
    exact Run.pure ⟨rfl, hi⟩
end
section
variable {prog : Program} {w : World} {K : Frag} {A : Around} {I : Heap → Prop} {env : Env}
theorem cn_stretches {l : Addr} {us : List Value} {ns : List Int} (r : Room A 2) (hh : A.handled = none) (hu : AllI ns us) (hz : ns.length ≤ 100) : Cn prog w (KK w) A (.ref 208) [.ref l] (fun h => h.IsList l us.toArray) fun h v h' => Al (fun g => g = h) (SL (ns.map stch)) v h' := by
  have hul : us.length = ns.length := by rw [AllV.length hu, List.length_map]
  refine Cn.of_body (mu := []) (binds := [(PySem.Str.ofString "codes", .ref l)]) r (kk_look (by k_is)) (kk_code (by k_is)) rfl rfl (by decide) rfl (fun _ _ p hp => nomatch hp) (fun _ hp => nomatch hp) (by decide) fun h h₀ L W hp hB hL => ?_
  have hl0 : h₀.IsList l us.toArray := let ⟨o, ho, r⟩ := hp; ⟨o, hB l o (by simp [ads]) ho, r⟩
  refine Ex.setC (c := L + 1) (C := fun (_ : Unit) u => IsT row1 u) (led' := fun _ => []) rfl (Ev.toS ?_) fun _ u hu1 => ?_
  · exact Ev.bin (Ev.bin (Ev.bin (Ev.bin (Ev.bin (Ev.bin (Ev.bin (Ev.bin (Ev.bin (Ev.bin Ev.str Ev.int (o_mulT (c := 99) (k := 9) (by decide +kernel) rfl (by decide) (by decide))) (Ev.mono Ev.str (lit (l := [116]) (by decide +kernel))) (o_addT (by decide)))
      (Ev.bin Ev.str Ev.int (o_mulT (c := 119) (k := 4) (by decide +kernel) rfl (by decide) (by decide))) (o_addT (by decide)))
      (Ev.bin Ev.str Ev.int (o_mulT (c := 99) (k := 18) (by decide +kernel) rfl (by decide) (by decide))) (o_addT (by decide)))
      (Ev.mono Ev.str (lit (l := [98]) (by decide +kernel))) (o_addT (by decide)))
      (Ev.bin Ev.str Ev.int (o_mulT (c := 112) (k := 15) (by decide +kernel) rfl (by decide) (by decide))) (o_addT (by decide)))
      (Ev.bin Ev.str Ev.int (o_mulT (c := 100) (k := 10) (by decide +kernel) rfl (by decide) (by decide))) (o_addT (by decide)))
      (Ev.bin Ev.str Ev.int (o_mulT (c := 112) (k := 7) (by decide +kernel) rfl (by decide) (by decide))) (o_addT (by decide)))
      (Ev.bin Ev.str Ev.int (o_mulT (c := 88) (k := 6) (by decide +kernel) rfl (by decide) (by decide))) (o_addT (by decide)))
      (Ev.bin Ev.str Ev.int (o_mulT (c := 85) (k := 20) (by decide +kernel) rfl (by decide) (by decide))) (o_addT (by decide))
  refine Ex.setC (c := L + 1) (C := fun (_ : Unit) u => IsT row2 u) (led' := fun _ => []) rfl (Ev.toS ?_) fun _ v hv => ?_
  · exact Ev.bin (Ev.bin (Ev.bin (Ev.bin (Ev.bin (Ev.bin (Ev.mono (Ev.cellS (c := L + 1) rfl rfl) fun _ e => e ▸ hu1)
      (Ev.bin Ev.str Ev.int (o_mulT (c := 112) (k := 6) (by decide +kernel) rfl (by decide) (by decide))) (o_addT (by decide)))
      (Ev.bin Ev.str Ev.int (o_mulT (c := 120) (k := 6) (by decide +kernel) rfl (by decide) (by decide))) (o_addT (by decide)))
      (Ev.bin Ev.str Ev.int (o_mulT (c := 108) (k := 20) (by decide +kernel) rfl (by decide) (by decide))) (o_addT (by decide)))
      (Ev.bin Ev.str Ev.int (o_mulT (c := 112) (k := 4) (by decide +kernel) rfl (by decide) (by decide))) (o_addT (by decide)))
      (Ev.mono Ev.str (lit (l := [68]) (by decide +kernel))) (o_addT (by decide)))
      (Ev.mono Ev.str (lit (l := [109]) (by decide +kernel))) (o_addT (by decide))
  refine Ex.retA (Tr.comp (n := us.length) (P := fun i u => us[i]? = some u) (p := fun _ => true) (F := fun u v => ∀ n, IsI n u → IsStr ⟨#[stch n]⟩ v) (cl := [(PySem.Str.ofString "row", L + 1)]) ?_ (by omega) rfl) fun u g r => ⟨u, .inl rfl, ?_⟩
  · refine Tr.mono (Ev.locS rfl) fun xv h₁ r => ?_
    obtain ⟨rx, S⟩ := r
    cases rx
    refine ⟨S, Src.list hh (let ⟨o, ho, r⟩ := hl0; ⟨o, S.fr.keep _ _ ho, r⟩), fun C i u g _ _ => no_tests, fun C i u g hP _ k => ?_⟩
    obtain ⟨n, hn, hnu⟩ := AllV.at hu hP
    have Ok : Okk (KK w) (IC g C (PySem.Str.ofString "code") u) := IC.okk (S.wdh.ext k)
    have hcell : ∀ g', IC g C (PySem.Str.ofString "code") u g' → g'.IsCell (L + 1) (some v) := fun g' i => ((S.cl.cell (PySem.Str.ofString "row") (L + 1) rfl).keeps k).keeps i.1
    refine Ev.mono (V := IsStr ⟨#[stch n]⟩) (Ev.ife (b := decide (0 ≤ n)) (Tv.cmp (Ev.mono Ev.own fun _ e => e ▸ hnu) Ev.int c_ge) (fun e => ?_) (fun e => ?_)) fun y hy n' hn' => ?_
    · have e := of_decide_eq_true e
      have hst : stch n = row2.getD (min n 128).toNat 0 := by unfold stch; rw [if_neg (by omega)]
      have hlt : (min n 128).toNat < row2.length := by rw [row2_length]; omega
      refine Ev.itemT (x := ⟨row2.toArray⟩) (k := min n 128) (Ev.mono (Ev.cellI (c := L + 1) hcell rfl) fun _ e => e ▸ hv) (Ev.callB (Ev.builtin Ok (g_min w) boot_min (by decide)) (Es.cons (Ev.mono Ev.own fun _ e => e ▸ hnu) (Es.cons Ev.int Es.nil)) (min_ok Ok hh)) (by omega) (by omega) ?_
      rw [hst]
      show row2.toArray[_]? = _
      rw [List.getElem?_toArray, List.getD_eq_getElem?_getD, List.getElem?_eq_getElem hlt]; rfl
    · have e := of_decide_eq_false e
      have hst : stch n = 45 := by unfold stch; rw [if_pos (by omega)]
      rw [hst]
      exact Ev.mono Ev.str (lit (l := [45]) (by decide +kernel))
    · obtain ⟨t, rfl⟩ := hnu
      obtain ⟨t', e⟩ := hn'
      cases e
      exact hy
  · obtain ⟨us', vs, hlen, hP, hF, al⟩ := r
    rw [filter_true] at hF
    have hAll : AllI ns us' := AllV.of_get (by rw [hlen, hul]) fun j u a x y => by
      have := hP j u x
      obtain ⟨b, hb, hbu⟩ := AllV.at hu this
      rw [y] at hb; cases hb
      exact hbu
    obtain ⟨l2, rfl, S⟩ := al.st
    refine (S.ret0 (i := 0) rfl hB).mono fun o ho => ⟨vs, ho, ?_⟩
    rw [List.map_map]
    exact AllV.comp hAll hF fun a u v ha hf => hf a ha
end
end Mine

open PySem PySem.W PyProof.Rows
set_option maxRecDepth 100000
namespace Mine
open PySem PySem.W PySem.Calls PyProof.Rows

/-- a pair that stands in the heap as a tuple -/
structure Pr where
  at_ : Addr
  x : Value
  y : Value
def PrAt (h : Heap) (p : Pr) : Prop := h.IsTuple p.at_ #[p.x, p.y]
theorem PrAt.ext {h h' : Heap} {p : Pr} (x : PrAt h p) (k : Ext h h') : PrAt h' p := let ⟨o, e, r⟩ := x; ⟨o, k _ _ e, r⟩
/-- the block of a comprehension over pairs -/
def IC2 (g : Heap) (C : Addr) (a : Str) (x : Value) (b : Str) (y : Value) (g' : Heap) : Prop := Ext g g' ∧ ∃ m, g'.Ns C m ∧ m a = some x ∧ m b = some y
section
variable {prog : Program} {w : World} {K : Frag} {A : Around} {I : Heap → Prop} {env : Env}
theorem IC2.okk {g : Heap} {C : Addr} {a b : Str} {x y : Value} (W : Wd K g) : Okk K (IC2 g C a x b y) where
  grow := fun _ _ i k => ⟨i.1.trans k, let ⟨m, hn, r⟩ := i.2; ⟨m, hn.keeps k, r⟩⟩
  wd := fun _ i => W.ext i.1
theorem Ev.own1 {g : Heap} {C : Addr} {a b : Str} {x y : Value} {pos : Pos} (hL : env.locals = C := by rfl) (hk : env.scope.kind = .function := by rfl) (hl : env.kindOf a = some .local := by rfl) (hd : (a == ("__debug__" : Str)) = false := by decide) :
    Ev (model prog w) A (IC2 g C a x b y) env (.Name a pos) (IsV x) := Ev.local (fun _ i => let ⟨m, hn, hm, _⟩ := i.2; ⟨m, x, hL ▸ hn, hm, rfl⟩) hk hl hd
theorem Ev.own2 {g : Heap} {C : Addr} {a b : Str} {x y : Value} {pos : Pos} (hL : env.locals = C := by rfl) (hk : env.scope.kind = .function := by rfl) (hl : env.kindOf b = some .local := by rfl) (hd : (b == ("__debug__" : Str)) = false := by decide) :
    Ev (model prog w) A (IC2 g C a x b y) env (.Name b pos) (IsV y) := Ev.local (fun _ i => let ⟨m, hn, _, hm⟩ := i.2; ⟨m, y, hL ▸ hn, hm, rfl⟩) hk hl hd

theorem pair_loop {elt iter c : Expr} {a b : Str} {pa pb tp : Pos} {kk : Nat} {scope : Scope} {pos : Pos} {It D ax : Addr} {cenv : Env} {m : Str → Option Value} {ps : List Pr} {h₁ : Heap} {s : Shared} {R : Result → Shared → Prop} {p : Pr → Bool} {F : Pr → Value → Prop}
    (hh : A.handled = none) (ha : cenv.kindOf a = some .local) (hb : cenv.kindOf b = some .local) (hab : a ≠ b) (hp : (cenv.scope.kind == .class || (cenv.scope.kind == .module && cenv.locals != cenv.globals)) = false)
    (hz : ps.length ≤ 1000000) (hl : h₁.IsList ax (ps.map fun q => Value.ref q.at_).toArray) (hq : ∀ q ∈ ps, PrAt h₁ q) (hE : Ext h₁ s.heap) (hIt : h₁.get? It = none) (hD : h₁.get? D = none) (hC : h₁.get? cenv.locals = none)
    (nIC : It ≠ cenv.locals) (nDC : D ≠ cenv.locals) (nDI : D ≠ It) (hi : s.heap.IsListIter It ax 0) (hd : s.heap.PlainList D #[]) (hn : s.heap.Ns cenv.locals m)
    (ht : ∀ q g, q ∈ ps → Ext h₁ g → Tv (model prog w) A (IC2 g cenv.locals a q.x b q.y) cenv c (p q))
    (he : ∀ q g, q ∈ ps → p q = true → Ext h₁ g → Ev (model prog w) A (IC2 g cenv.locals a q.x b q.y) cenv elt (F q))
    (hR : ∀ h' tk m' ys, h'.Ns cenv.locals m' → h'.PlainList D ys → Paired F (ps.filter p) ys.toList → Ext h₁ h' → R (.ok .next) { s with heap := h', toks := tk }) :
    codeAny (model prog w) A (.compLoop (.ListComp elt [⟨.Tuple [.Name a pa, .Name b pb] kk tp, iter, [c], 0⟩] scope pos) 0 (.ref It) (.ref D) cenv) R s := by
  refine kct_loop (fun k s' => ∃ h' tk m' ys i, s' = { s with heap := h', toks := tk } ∧ h'.IsListIter It ax i ∧ h'.PlainList D ys ∧ h'.Ns cenv.locals m' ∧ Paired F ((ps.take i).filter p) ys.toList ∧ i ≤ ps.length ∧ k = ps.length + 1 - i ∧ Ext h₁ h') ?_ (ps.length + 1)
    ⟨s.heap, s.toks, m, #[], 0, rfl, hi, hd, hn, by simpa using Paired.nil, Nat.zero_le _, rfl, hE⟩
  rintro k s' ⟨H, tk, m', ys, i, rfl, hi', hd', hn', hF, hle, rfl, hE'⟩
  have hl' : H.IsList ax (ps.map fun q => Value.ref q.at_).toArray := let ⟨o, e, r⟩ := hl; ⟨o, hE' _ _ e, r⟩
  have nI : ∀ c o, h₁.get? c = some o → c ≠ It := fun c o e q => by rw [q, hIt] at e; cases e
  have nC : ∀ c o, h₁.get? c = some o → c ≠ cenv.locals := fun c o e q => by rw [q, hC] at e; cases e
  have nD : ∀ c o, h₁.get? c = some o → c ≠ D := fun c o e q => by rw [q, hD] at e; cases e
  cases hv : ps[i]? with
  | none =>
    have hlen : ps.length ≤ i := by simpa using hv
    refine wpAny_pyNext_list_end hh hi' hl' (by simpa using hv) fun h₂ he₂ => ?_
    rw [List.take_of_length_le hlen] at hF
    exact hR h₂ tk m' ys (hn'.extBut he₂ (Ne.symm nIC)) (hd'.extBut he₂ nDI) hF fun c o e => he₂ c o (nI c o e) (hE' c o e)
  | some q =>
    have hlt : i < ps.length := by
      rcases Nat.lt_or_ge i ps.length with z | z
      · exact z
      · rw [List.getElem?_eq_none z] at hv; cases hv
    have hm : q ∈ ps := List.mem_of_getElem? hv
    refine wpAny_pyNext_list_item hi' hl' (x := .ref q.at_) (by simp [hv]) fun h₂ hi₂ hs₂ => ?_
    refine wpAny_letOwnedTupleGo_listiter hi₂ ?_
    have hE₂ : Ext h₁ h₂ := fun c o e => hs₂.extBut c o (nI c o e) (hE' c o e)
    refine kcp_assign hh ((hq q hm).ext hE₂) ha hb hp (hn'.sameBut hs₂ (Ne.symm nIC)) fun h₃ tk₃ hn₃ hk₃ => ?_
    have hE₃ : Ext h₁ h₃ := fun c o e => hk₃ c o (nC c o e) (hE₂ c o e)
    have hma : (fun z => if z = b then some q.y else if z = a then some q.x else m' z) a = some q.x := by simp [hab]
    have hmb : (fun z => if z = b then some q.y else if z = a then some q.x else m' z) b = some q.y := by simp
    refine (ht q h₃ hm hE₃ h₃ ⟨Ext.refl _, _, hn₃, hma, hmb⟩).bindK rfl fun ok h₄ tk₄ r₄ => ?_
    obtain ⟨rfl, hk₄, m₄, hn₄, hma₄, hmb₄⟩ := r₄
    have hE₄ : Ext h₁ h₄ := hE₃.trans hk₄
    have hi₄ : h₄.IsListIter It ax (i + 1) := by
      obtain ⟨o, e, r⟩ := hi₂
      exact ⟨o, hk₄ _ _ (hk₃ It o nIC e), r⟩
    have hd₄ : h₄.PlainList D ys := hd'.at fun o e => hk₄ _ _ (hk₃ D o nDC (hs₂.extBut D o nDI e))
    cases hpq : p q with
    | false =>
      simp only [Bool.false_eq_true, if_false]
      refine ⟨ps.length + 1 - (i + 1), by omega, h₄, tk₄, m₄, ys, i + 1, rfl, hi₄, hd₄, hn₄, ?_, hlt, rfl, hE₄⟩
      rw [take_succ_filter p _ i q hv, hpq]
      simpa using hF
    | true =>
      simp only [if_true]
      refine (he q h₄ hm hpq hE₄ h₄ ⟨Ext.refl _, m₄, hn₄, hma₄, hmb₄⟩).bindK rfl fun v h₅ tk₅ r₅ => ?_
      obtain ⟨hFv, hk₅, _⟩ := r₅
      have hys : ys.size ≤ sizeLine := by
        have e1 := hF.length
        have e2 : ((ps.take i).filter p).length ≤ (ps.take i).length := List.length_filter_le _ _
        have e3 : (ps.take i).length ≤ ps.length := by rw [List.length_take]; omega
        have e4 : ys.toList.length = ys.size := by simp
        unfold sizeLine
        omega
      refine wpAny_list_append_plain (hsz := hys) (hd₄.at fun o e => hk₅ _ _ e) fun h₆ hl₆ hs₆ => ?_
      refine ⟨ps.length + 1 - (i + 1), by omega, h₆, tk₅, m₄, ys.push v, i + 1, rfl, ?_, hl₆, (hn₄.keeps hk₅).sameBut hs₆ (Ne.symm nDC), ?_, hlt, rfl, fun c o e => hs₆.extBut c o (nD c o e) (hk₅ c o (hE₄ c o e))⟩
      · obtain ⟨o, e, r⟩ := hi₄
        exact ⟨o, hs₆.extBut _ _ (Ne.symm nDI) (hk₅ _ _ e), r⟩
      · rw [take_succ_filter p _ i q hv, hpq]
        simpa using Paired.snoc hF hFv
theorem pair_block {elt iter c : Expr} {a b : Str} {pa pb tp : Pos} {kk : Nat} {scope : Scope} {cl : List (Str × Addr)} {pos : Pos} {It ax : Addr} {ps : List Pr} {h₁ : Heap} {s : Shared} {E : Value → Shared → Prop} {RR : Value → Addr → Result → Shared → Prop} {p : Pr → Bool} {F : Pr → Value → Prop}
    (hh : A.handled = none) (hcell : ∀ y ∈ scope.names, y.2 ≠ .cell) (hkind : scope.kind = .function) (hxa : scope.names.lookup a = some .local) (hxb : scope.names.lookup b = some .local) (hab : a ≠ b)
    (hz : ps.length ≤ 1000000) (hl : h₁.IsList ax (ps.map fun q => Value.ref q.at_).toArray) (hq : ∀ q ∈ ps, PrAt h₁ q) (hE : Ext h₁ s.heap) (hIt : h₁.get? It = none) (hi : s.heap.IsListIter It ax 0)
    (ht : ∀ C q g, q ∈ ps → Ext h₁ g → Tv (model prog w) A (IC2 g C a q.x b q.y) (compEnvC scope cl C env) c (p q))
    (he : ∀ C q g, q ∈ ps → p q = true → Ext h₁ g → Ev (model prog w) A (IC2 g C a q.x b q.y) (compEnvC scope cl C env) elt (F q))
    (hRR : ∀ D C h' tk m' ys, h₁.get? D = none → h₁.get? C = none → D ≠ C → h'.Ns C m' → h'.PlainList D ys → Paired F (ps.filter p) ys.toList → Ext h₁ h' → RR (.ref D) C (.ok .next) { s with heap := h', toks := tk }) :
    wpAny (model prog w) A (newList []) (fun acc s₃ => wpAny (model prog w) A (newFunctionEnv scope env.globals cl [] env.qual none .none (some env)) (fun cenv s₄ =>
      codeAny (model prog w) A (.compStart (.ListComp elt [⟨.Tuple [.Name a pa, .Name b pb] kk tp, iter, [c], 0⟩] scope pos) 0 (.ref It) acc { cenv with scope := relabel scope env }) (RR acc cenv.locals) s₄) E s₃) E s := by
  refine wpAny_newObj_type (wpAny_newFunctionEnv hcell (by intro y hy; simp at hy) (fun g hns hsb => ?_) hkind)
  dsimp only at hns hsb ⊢
  generalize hH2 : s.heap.push { cls := .type "list", dict := none, data := .seq ([] : List Value).toArray } = H2 at hns hsb ⊢
  have hC : H2.objs.size = s.heap.objs.size + 1 := by rw [← hH2, Heap.size_push]
  have nDC : s.heap.objs.size ≠ H2.objs.size := by rw [hC]; exact Nat.ne_of_lt (Nat.lt_succ_self _)
  have hItlt : It < s.heap.objs.size := let ⟨o, e, _⟩ := hi; Heap.lt_size e
  have below : ∀ c, c < s.heap.objs.size → c ≠ H2.objs.size := fun c hc => by rw [hC]; exact Nat.ne_of_lt (Nat.lt_succ_of_lt hc)
  have old : Ext s.heap g := fun c o e => hsb.extBut c o (below c (Heap.lt_size e)) (Heap.get?_push_of_some _ (hH2 ▸ Heap.get?_push_of_some _ e))
  have fresh : ∀ c, s.heap.objs.size ≤ c → h₁.get? c = none := fun c hc => by
    cases e : h₁.get? c with
    | none => rfl
    | some o => exact absurd (Heap.lt_size (hE _ _ e)) (Nat.not_lt.mpr hc)
  have hd : g.PlainList s.heap.objs.size #[] := ⟨0, hsb.extBut _ _ nDC (Heap.get?_push_of_some _ (hH2 ▸ Heap.get?_push_size _ rfl))⟩
  have hi' : g.IsListIter It ax 0 := let ⟨o, e, r⟩ := hi; ⟨o, old _ _ e, r⟩
  have loop : ∀ s₃ : Shared, s₃ = { s with heap := g, toks := s.toks + ([] : List (Str × Value)).length } →
      codeAny (model prog w) A (.compLoop (.ListComp elt [⟨.Tuple [.Name a pa, .Name b pb] kk tp, iter, [c], 0⟩] scope pos) 0 (.ref It) (.ref s.heap.objs.size) (compEnvC scope cl H2.objs.size env)) (RR (.ref s.heap.objs.size) H2.objs.size) s₃ := by
    rintro s₃ rfl
    exact pair_loop (cenv := compEnvC scope cl H2.objs.size env) (h₁ := h₁) hh (lookup_relabel_local hxa) (lookup_relabel_local hxb) hab (by simp [compEnvC, relabel, hkind]) hz hl hq (hE.trans old) hIt (fresh _ (Nat.le_refl _)) (fresh _ (by rw [hC]; exact Nat.le_succ _))
      (Nat.ne_of_lt (by rw [hC]; exact Nat.lt_succ_of_lt hItlt)) nDC (Ne.symm (Nat.ne_of_lt hItlt)) hi' hd hns (ht _) (he _) fun h' tk m' ys hn hpl hF hx => hRR _ _ h' tk m' ys (fresh _ (Nat.le_refl _)) (fresh _ (by rw [hC]; exact Nat.le_succ _)) nDC hn hpl hF hx
  exact codeAny_compStart_list (loop _ rfl) (wpAny_pyIter_listiter hi' (loop _ rfl))
end

section
variable {prog : Program} {w : World} {K : Frag} {A : Around} {env : Env} {h₀ : Heap} {L : Addr} {cs : List (Str × Addr)} {m cm : Str → Option Value} {led : Ledger}
/-- a comprehension over pairs stored into a local on its own line -/
theorem Ex.setComp2 {elt iter c : Expr} {a b y : Str} {pa pb tp py : Pos} {kk : Nat} {scope : Scope} {cl : List (Str × Addr)} {pos spos : Pos} {rest : List Stmt} {ax : Addr} {ps : List Pr} {p : Pr → Bool} {F : Pr → Value → Prop} {G : Flow → Heap → Prop}
    (hh : A.handled = none) (hz : ps.length ≤ 1000000)
    (hsrc : Tr (model prog w) A (St K h₀ L cs m cm led) (eval iter env) fun xv h₁ => xv = .ref ax ∧ St K h₀ L cs m cm led h₁ ∧ h₁.IsList ax (ps.map fun q => Value.ref q.at_).toArray ∧ (∀ q ∈ ps, PrAt h₁ q) ∧
      (∀ C q g, q ∈ ps → Ext h₁ g → Tv (model prog w) A (IC2 g C a q.x b q.y) (compEnvC scope cl C env) c (p q)) ∧ (∀ C q g, q ∈ ps → p q = true → Ext h₁ g → Ev (model prog w) A (IC2 g C a q.x b q.y) (compEnvC scope cl C env) elt (F q)))
    (hclos : closureFor scope env = pure cl) (hr : ∀ D, ∀ vs : List Value, Paired F (ps.filter p) vs → Ex (model prog w) A (St K h₀ L cs (up m y (.ref D)) cm ((D, PL vs) :: led)) env rest G)
    (hsw : swapsWith (.ListComp elt [⟨.Tuple [.Name a pa, .Name b pb] kk tp, iter, [c], 0⟩] scope pos) (some (.Name y py)) spos.line env = pure true := by rfl)
    (hs : ∀ x, foldedSetIterable iter env x = pure x := by intro _; rfl) (hcell : ∀ y ∈ scope.names, y.2 ≠ .cell := by decide) (hkind : scope.kind = .function := by rfl)
    (hnames : ∀ y ∈ scope.names, y.2 = .local → scope.names.lookup y.1 = some .local := by decide) (hxa : scope.names.lookup a = some .local := by rfl) (hxb : scope.names.lookup b = some .local := by rfl) (hab : a ≠ b := by decide)
    (hL : env.locals = L := by rfl) (hk : env.scope.kind = .function := by rfl) (hy : env.kindOf y = some .local := by rfl) :
    Ex (model prog w) A (St K h₀ L cs m cm led) env (.Assign [.Name y py] (.ListComp elt [⟨.Tuple [.Name a pa, .Name b pb] kk tp, iter, [c], 0⟩] scope pos) spos :: rest) G := fun h hI => Run.mk fun s Q E hs' q => by
  refine wpAny_execs_cons ?_
  rw [exec_Assign_Name_used _ _ _ _ hsw]
  refine wpAny_bind (wpAny_standAt (wpAny_bind ?_))
  show wpAny _ A (do let _ ← comprehension (.ListComp elt [⟨.Tuple [.Name a pa, .Name b pb] kk tp, iter, [c], 0⟩] scope pos) scope env _ (newList []) false (eval iter env) (some (assign (.Name y py) env))) _ _ s
  let Q' : Flow → Shared → Prop := fun f s' => match f with | .next => wpAny (model prog w) A (execs rest env) Q E s' | f => Q f s'
  refine wpAny_bind (wpAny_mono (wpAny_comprehension_free (use := some (assign (.Name y py) env)) (Q := fun _ s' => Q' .next s') rfl hs hclos hkind hnames ((hsrc h hI).bindK hs' fun xv h₁ k₁ r => ?_)) (fun _ s' hq => wpAny_pure (wpAny_pure hq)) fun _ _ e => e)
  obtain ⟨rfl, S, hl, hq, ht, he⟩ := r
  refine wpAny_pyIter_list hl ?_
  refine pair_block (h₁ := h₁) (RR := fun acc C => compPost (model prog w) A E (some (assign (.Name y py) env)) (fun _ s' => Q' .next s') acc C) hh hcell hkind hxa hxb hab hz hl hq (push_ext _ _) (push_none _) ⟨_, Heap.get?_push_size _ rfl, rfl, rfl⟩ ht he ?_
  intro D C h' tk m' ys hD hC nDC hnC hpl hF hx
  have hLo := S.fr.ns
  have hLC : L ≠ C := by rintro rfl; obtain ⟨o, _, _, ho, _⟩ := hLo; rw [hC] at ho; cases ho
  have hLD : L ≠ D := by rintro rfl; obtain ⟨o, _, _, ho, _⟩ := hLo; rw [hD] at ho; cases ho
  show wpAny _ A (assign (.Name y py) env (.ref D)) _ _ _
  refine wpAny_assign_Name (wpAny_storeName_local hy (hL ▸ S.fr.ns.keeps hx) (fun h₂ hn₂ hs₂ => ?_) (by rw [hk]; rfl))
  rw [hL] at hn₂ hs₂
  refine ⟨m', hnC.sameBut hs₂ (Ne.symm hLC), fun h₃ hs₃ => ?_⟩
  obtain ⟨nn, hpl⟩ := hpl
  have S' := S.addL (h' := h₃) (v := .ref D) (P := PL ys.toList) (hn₂.sameBut hs₃ hLC) (fun c o hc e => hs₃.extBut c o (fun z => by rw [z, hC] at e; cases e) (hs₂.extBut c o hc (hx c o e))) hD (hs₃.extBut _ _ nDC (hs₂.extBut _ _ (Ne.symm hLD) hpl)) ⟨nn, by simp⟩
  exact (hr D ys.toList hF h₃ S').bindK rfl q
end
end Mine

open PySem PySem.W PyProof.Rows
set_option maxRecDepth 100000
namespace Mine
open PySem PySem.W PySem.Calls PyProof.Rows

/-- a tuple of these values -/
def TT (vs : List Value) (o : Obj) : Prop := o = { cls := .type "tuple", data := .seq vs.toArray }
theorem TT.at {h : Heap} {t : Addr} {o : Obj} {vs : List Value} (e : h.get? t = some o) (x : TT vs o) : h.IsTuple t vs.toArray := by
  cases x; exact ⟨_, e, rfl, _, rfl⟩

theorem AllN.ints : ∀ {ns : List Nat} {vs : List Value}, AllN ns vs → IntsAre vs (ns.map Int.ofNat)
  | [], [], _ => .nil
  | [], _ :: _, e => e.elim
  | _ :: _, [], e => e.elim
  | n :: ns, v :: vs, e => by
    obtain ⟨t, rfl⟩ := e.1
    exact .cons _ _ (AllN.ints (ns := ns) e.2)

/-! several new objects at once -/
def AlL (I : Heap → Prop) (news : Ledger) (h' : Heap) : Prop := ∃ h1, I h1 ∧ Ext h1 h' ∧ (∀ p ∈ news, h1.get? p.1 = none ∧ ∃ o, h'.get? p.1 = some o ∧ p.2 o) ∧ (ads news).Nodup
section
variable {K : Frag} {h₀ : Heap} {L : Addr} {cs : List (Str × Addr)} {m cm : Str → Option Value} {led : Ledger}
theorem St.adds {h h' : Heap} (S : St K h₀ L cs m cm led h) (k : Ext h h') : ∀ {news : Ledger}, (∀ p ∈ news, h.get? p.1 = none ∧ ∃ o, h'.get? p.1 = some o ∧ p.2 o) → (ads news).Nodup → St K h₀ L cs m cm (news ++ led) h'
  | [], _, _ => St.okk.grow _ _ S k
  | p :: news, ha, hn => by
    have hn' := List.nodup_cons.mp (show (p.1 :: ads news).Nodup from hn)
    have S' := St.adds S k (news := news) (fun q hq => ha q (List.mem_cons_of_mem _ hq)) hn'.2
    obtain ⟨h1, o, h2, h3⟩ := ha p (List.mem_cons_self ..)
    have nol : p.1 ∉ ads led := fun q => by
      obtain ⟨r, hr, e⟩ := List.mem_map.mp q
      obtain ⟨⟨o', ho', _⟩, _⟩ := S.ld r hr
      rw [e, h1] at ho'; cases ho'
    refine ⟨S'.fr, S'.cl, S'.wd, fun q hq => ?_, ?_, S'.nn⟩
    · rcases List.mem_cons.mp hq with rfl | hq
      · obtain ⟨oL, _, _, hL, _⟩ := S.fr.ns
        refine ⟨⟨o, h2, h3⟩, (fun e => by rw [e, hL] at h1; cases h1), ?_, fun x hx e => ?_⟩
        · cases z : h₀.get? q.1 with
          | none => rfl
          | some o' => have := S.fr.keep _ _ z; rw [h1] at this; cases this
        · obtain ⟨oc, hc, _⟩ := S.cl.cell x.1 x.2 (lookup_of_mem_nodup S.nn hx)
          rw [e, hc] at h1; cases h1
      · exact S'.ld q hq
    · show (p.1 :: ads (news ++ led)).Nodup
      refine List.nodup_cons.mpr ⟨fun q => ?_, S'.nd⟩
      unfold ads at q
      rw [List.map_append] at q
      rcases List.mem_append.mp q with q | q
      · exact hn'.1 q
      · exact nol q
theorem AlL.st {news : Ledger} {h' : Heap} (x : AlL (St K h₀ L cs m cm led) news h') : St K h₀ L cs m cm (news ++ led) h' :=
  let ⟨_, S, k, a, n⟩ := x; S.adds k a n
theorem AlL.of {I : Heap → Prop} {news : Ledger} {h' : Heap} (x : ∃ h1, I h1 ∧ AlL (fun g => g = h1) news h') : AlL I news h' :=
  let ⟨_, i, a, e, q, r⟩ := x; ⟨a, e ▸ i, q, r⟩
theorem AlL.mono {I : Heap → Prop} {news news' : Ledger} {h' : Heap} (x : AlL I news h') (hs : ∀ p ∈ news', ∃ q ∈ news, p.1 = q.1 ∧ ∀ o, q.2 o → p.2 o) (hn : (ads news').Nodup) : AlL I news' h' := by
  obtain ⟨h1, i, k, a, _⟩ := x
  refine ⟨h1, i, k, fun p hp => ?_, hn⟩
  obtain ⟨q, hq, e, r⟩ := hs p hp
  obtain ⟨x1, o, x2, x3⟩ := a q hq
  rw [e]
  exact ⟨x1, o, x2, r o x3⟩
/-- what a body that changes no older object leaves behind -/
theorem St.rets {h h' : Heap} (S : St K h₀ L cs m cm led h') (hB : ∀ b o, b ∉ ads [] → h.get? b = some o → h₀.get? b = some o) : AlL (fun g => g = h) led h' := by
  refine ⟨h, rfl, (S.out hB).nil, fun p hp => ?_, S.nd⟩
  obtain ⟨o, _, hn, _⟩ := S.ld p hp
  refine ⟨?_, o⟩
  cases q : h.get? p.1 with
  | none => rfl
  | some o' => have := hB p.1 o' (by simp [ads]) q; rw [hn] at this; cases this
theorem St.swap {h : Heap} {p q : Addr × (Obj → Prop)} (S : St K h₀ L cs m cm (p :: q :: led) h) : St K h₀ L cs m cm (q :: p :: led) h :=
  S.sub (fun x hx => by
    rcases List.mem_cons.mp hx with rfl | hx
    · exact ⟨x, by simp, rfl, fun _ e => e⟩
    · rcases List.mem_cons.mp hx with rfl | hx
      · exact ⟨x, by simp, rfl, fun _ e => e⟩
      · exact ⟨x, by simp [hx], rfl, fun _ e => e⟩) (by
    have := S.nd
    simp only [ads, List.map_cons, List.nodup_cons, List.mem_cons] at this ⊢
    exact ⟨fun z => z.elim (fun e => this.1 (.inl e.symm)) this.2.1, fun z => this.1 (.inr z), this.2.2⟩)
theorem St.drop1 {h : Heap} {p : Addr × (Obj → Prop)} (S : St K h₀ L cs m cm (p :: led) h) : St K h₀ L cs m cm led h :=
  S.sub (fun x hx => ⟨x, List.mem_cons_of_mem _ hx, rfl, fun _ e => e⟩) (List.nodup_cons.mp S.nd).2
theorem St.has_tup {h : Heap} {i : Nat} {t : Addr} {vs : List Value} (S : St K h₀ L cs m cm led h) (hi : led[i]? = some (t, TT vs)) : h.IsTuple t vs.toArray := by
  obtain ⟨o, ho, hp⟩ := S.has hi
  exact hp.at ho
end

section
variable {prog : Program} {w : World} {K : Frag} {A : Around} {I : Heap → Prop} {env : Env}
theorem Al.back (hI : Okk K I) {P : Obj → Prop} {v : Value} {h' : Heap} (x : Al I P v h') : I h' := let ⟨_, _, _, _, i, k, _⟩ := x; hI.grow _ _ i k
theorem c_inL {l : Addr} {vs : List Value} {ns : List Nat} {k : Nat} (hi : AllN ns vs) (hl : ∀ h, I h → h.IsList l vs.toArray) (a b : Value) (ha : IsN k a) (hb : IsR l b) :
    Tr (model prog w) A I (compareOp .In a b) fun d h' => IsB (decide (k ∈ ns)) d ∧ I h' := fun h hh => Run.mk fun s Q E hs q => by
  obtain ⟨t, rfl⟩ := ha; cases hb; subst hs
  refine in_list_ints (hl _ hh) hi.ints (q _ s.heap s.toks ⟨?_, hh⟩)
  congr 1
  rw [Bool.eq_iff_iff, List.any_eq_true, decide_eq_true_iff]
  exact ⟨fun ⟨x, hx, e⟩ => by obtain ⟨n, hn, rfl⟩ := List.mem_map.mp hx; have := beq_iff_eq.mp e; exact (Int.ofNat.inj this) ▸ hn, fun e => ⟨_, List.mem_map.mpr ⟨k, e, rfl⟩, by simp⟩⟩
theorem c_ninL {l : Addr} {vs : List Value} {ns : List Nat} {k : Nat} (hi : AllN ns vs) (hl : ∀ h, I h → h.IsList l vs.toArray) (a b : Value) (ha : IsN k a) (hb : IsR l b) :
    Tr (model prog w) A I (compareOp .NotIn a b) fun d h' => IsB (!decide (k ∈ ns)) d ∧ I h' := fun h hh => Run.mk fun s Q E hs q => by
  obtain ⟨t, rfl⟩ := ha; cases hb; subst hs
  refine notin_list_ints (hl _ hh) hi.ints (q _ s.heap s.toks ⟨?_, hh⟩)
  congr 2
  rw [Bool.eq_iff_iff, List.any_eq_true, decide_eq_true_iff]
  exact ⟨fun ⟨x, hx, e⟩ => by obtain ⟨n, hn, rfl⟩ := List.mem_map.mp hx; have := beq_iff_eq.mp e; exact (Int.ofNat.inj this) ▸ hn, fun e => ⟨_, List.mem_map.mpr ⟨k, e, rfl⟩, by simp⟩⟩
theorem tr_list {l : Addr} {vs : List Value} (hl : ∀ h, I h → h.IsList l vs.toArray) (hz : szs vs.length) : ∀ v, IsR l v → Tr (model prog w) A I (truthy v) fun c h' => c = decide (vs ≠ []) ∧ I h' := fun v e h hh => Run.mk fun s Q E hs q => by
  cases e; subst hs
  have := hz
  unfold szs at this
  refine wpAny_truthy_list (hl _ hh) (by simp only [List.size_toArray]; omega) (q _ s.heap _ ⟨?_, hh⟩)
  cases vs <;> simp
theorem Tv.cmp2 {op : CmpOp} {l r : Expr} {pos : Pos} {J : Value → Heap → Prop} {J2 : Value → Value → Heap → Prop} {c : Bool} (x : Tr (model prog w) A I (eval l env) J) (y : ∀ a, Tr (model prog w) A (J a) (eval r env) (J2 a))
    (o : ∀ a b, Tr (model prog w) A (J2 a b) (compareOp op a b) fun d h' => IsB c d ∧ I h') (hm : behindInMarks op r = false := by with_unfolding_all rfl) : Tv (model prog w) A I env (.Compare l [op] [r] pos) c := fun h hI => Run.mk fun s Q E hs q =>
  wpAny_isTrue_Compare1 (hm := hm) ((x h hI).bindK hs fun a h1 k1 r1 => (y a h1 r1).bindK rfl fun b h2 k2 r2 => (o a b h2 r2).bindK rfl fun d h3 k3 r3 => by
    obtain ⟨rfl, hh⟩ := r3
    exact wpAny_truthy_bool (q c h3 k3 ⟨rfl, hh⟩))
theorem Ev.cmp2 {op : CmpOp} {l r : Expr} {pos : Pos} {J : Value → Heap → Prop} {J2 : Value → Value → Heap → Prop} {c : Bool} (x : Tr (model prog w) A I (eval l env) J) (y : ∀ a, Tr (model prog w) A (J a) (eval r env) (J2 a))
    (o : ∀ a b, Tr (model prog w) A (J2 a b) (compareOp op a b) fun d h' => IsB c d ∧ I h') (hm : behindInMarks op r = false := by with_unfolding_all rfl) : Ev (model prog w) A I env (.Compare l [op] [r] pos) (IsB c) := fun h hI => Run.mk fun s Q E hs q =>
  wpAny_Compare1 (hm := hm) ((x h hI).bindK hs fun a h1 k1 r1 => (y a h1 r1).bindK rfl fun b h2 k2 r2 => (o a b h2 r2).bindK rfl q)

/-- equality of two lists, item by item -/
theorem eq_lists {l b : Addr} {xs ys : List Value} {c : Bool} (hu : A.units < cLine) (hl : ∀ h, I h → h.IsList l xs.toArray) (hb : ∀ h, I h → h.IsList b ys.toArray)
    (he : ∀ h, I h → ∃ e : Nat → Bool, (∀ s : Shared, s.heap = h → ∀ j (h1 : j < xs.length) (h2 : j < ys.length), SeqAt.EqAt A.in1 s xs[j] ys[j] (e j)) ∧ (decide (xs.length = ys.length) && (List.range xs.length).all e) = c) :
    Tr (model prog w) A I (compareOp .Eq (.ref l) (.ref b)) fun d h' => IsB c d ∧ I h' := fun h hh => Run.mk fun s Q E hs q => by
  obtain ⟨e, h1, h2⟩ := he h hh
  have g1 := h1 s hs
  clear h1
  subst hs
  by_cases hz : xs.length = ys.length
  · rw [decide_eq_true hz, Bool.true_and] at h2
    refine SeqAt.eq_listAt (e := e) (hl _ hh) (hb _ hh) (by simpa using hz) hu (fun j a b => by simpa using g1 j (by simpa using a) (by simpa using b)) (q _ s.heap s.toks ⟨?_, hh⟩)
    rw [List.size_toArray, h2]; rfl
  · rw [decide_eq_false hz, Bool.false_and] at h2
    refine SeqAt.eq_list_lengthsAt (hl _ hh) (hb _ hh) (by simpa using hz) hu (q _ s.heap s.toks ⟨?_, hh⟩)
    rw [← h2]; rfl

/-! displays whose elements make objects -/
def EsT (M : Model) (A : Around) (I : Heap → Prop) (env : Env) (es : List Expr) (R : List Value → Heap → Prop) : Prop :=
  ∀ pos, Tr M A I (spliced (backTo pos (starEach es env))) R
theorem EsT.nil : EsT (model prog w) A I env [] fun vs h => vs = [] ∧ I h := fun _ _ hI => Run.mk fun s Q E hs q => by
  subst hs
  exact args_nil (q [] s.heap s.toks ⟨rfl, hI⟩)
theorem EsT.cons {e : Expr} {rest : List Expr} {J : Value → Heap → Prop} {R : Value → List Value → Heap → Prop} (x : Tr (model prog w) A I (eval e env) J) (y : ∀ v, EsT (model prog w) A (J v) env rest (R v))
    (he : starEach (e :: rest) env = (false, eval e env) :: starEach rest env := by rfl) : EsT (model prog w) A I env (e :: rest) fun vs h => ∃ v us, vs = v :: us ∧ R v us h := fun pos h hI => Run.mk fun s Q E hs q =>
  args_cons (he := he) ((x h hI).bindK hs fun v h1 k1 r1 => (y v pos h1 r1).bindK rfl fun vs h2 k2 r2 => q (v :: vs) h2 k2 ⟨v, vs, rfl, r2⟩)
theorem EsT.mono {es : List Expr} {R R' : List Value → Heap → Prop} (x : EsT (model prog w) A I env es R) (k : ∀ a h, R a h → R' a h) : EsT (model prog w) A I env es R' := fun pos => (x pos).mono k
theorem Tr.tupleT {elts : List Expr} {k : Nat} {pos : Pos} {R : List Value → Heap → Prop} (y : EsT (model prog w) A I env elts R) (hz : ∀ vs h, R vs h → vs.length ≤ 100) :
    Tr (model prog w) A I (eval (.Tuple elts k pos) env) fun v h' => ∃ vs, Al (R vs) (TT vs) v h' := fun h hh => Run.mk fun s Q E hs q => by
  refine Tuple_ ((y pos h hh).bindK hs fun vs h1 k1 r1 => ?_)
  have := hz _ _ r1
  refine wpAny_newObj_type (hd := by show vs.toArray.size ≤ sizeLine; rw [List.size_toArray]; unfold sizeLine; omega) ?_
  exact q _ _ k1 ⟨vs, h1, _, _, rfl, r1, push_ext _ _, push_none _, Heap.get?_push_size _ rfl, rfl⟩

/-- while -/
theorem Ex.while_ {test : Expr} {body rest : List Stmt} {pos : Pos} (J : Nat → Heap → Prop) (T : Nat → Heap → Prop) (X : Heap → Prop) {G : Flow → Heap → Prop} (n : Nat) (h0 : ∀ h, I h → J n h)
    (ht : ∀ k, Tr (model prog w) A (J k) (isTrue test env (eval test env)) fun c h' => if c = true then T k h' else X h')
    (hb : ∀ k, Ex (model prog w) A (T k) env body fun fl h' => fl = .next ∧ ∃ k', k' < k ∧ J k' h')
    (hr : Ex (model prog w) A X env rest G) : Ex (model prog w) A I env (.While test body [] pos :: rest) G := by
  refine Ex.cons (J := X) (fun h hh => Run.mk fun s Q E hs q => ?_) hr
  refine wpAny_noRaise ?_
  refine wpAny_While (codeAny_whileLoop (fun k s' => ∃ g tk, s' = { s with heap := g, toks := tk } ∧ J k g) ?_ n ⟨s.heap, s.toks, rfl, h0 _ (hs ▸ hh)⟩)
  rintro k s' ⟨g, tk, rfl, hJ⟩
  refine (ht k g hJ).bindK rfl fun c g1 k1 r1 => ?_
  cases c with
  | false =>
    simp only [Bool.false_eq_true, if_false] at r1 ⊢
    exact wpAny_execs_nil (q .next g1 k1 r1)
  | true =>
    simp only [if_true] at r1 ⊢
    refine (hb k g1 r1).bindK rfl fun fl g2 k2 r2 => ?_
    obtain ⟨rfl, k', hk, hJ'⟩ := r2
    exact ⟨k', hk, g2, k2, rfl, hJ'⟩
end

/-! several stores at once -/
def stL (env : Env) : List Str → List Value → (Str → Option Value) → Str → Option Value
  | x :: xs, v :: vs, m => stL env xs vs (match env.kindOf x with | some .cell => m | _ => up m x v)
  | _, _, m => m
def stC (env : Env) : List Str → List Value → (Str → Option Value) → Str → Option Value
  | x :: xs, v :: vs, m => stC env xs vs (match env.kindOf x with | some .cell => up m x v | _ => m)
  | _, _, m => m
def stOk (env : Env) (cs : List (Str × Addr)) (x : Str) : Bool := env.kindOf x == some .local || (env.kindOf x == some .cell && (cs.lookup x).isSome)
section
variable {prog : Program} {w : World} {K : Frag} {A : Around} {env : Env} {h₀ : Heap} {L : Addr} {cs : List (Str × Addr)} {led : Ledger}
theorem store_one {m cm : Str → Option Value} {x : Str} {v : Value} {c : Value → Sem Unit} (hc : ∀ (s : Shared) (Q : Unit → Shared → Prop) (E : Value → Shared → Prop), wpAny (model prog w) A (storeName env x v) Q E s → wpAny (model prog w) A (c v) Q E s)
    (hx : stOk env cs x = true) (hL : env.locals = L) (hC : env.cells = cs) (hk : env.scope.kind = .function) :
    Tr (model prog w) A (St K h₀ L cs m cm led) (c v) fun _ h' => St K h₀ L cs (match env.kindOf x with | some .cell => m | _ => up m x v) (match env.kindOf x with | some .cell => up cm x v | _ => cm) led h' := fun h S => Run.mk fun s Q E hs q => by
  subst hs
  refine hc _ _ _ ?_
  unfold stOk at hx
  rw [Bool.or_eq_true, Bool.and_eq_true] at hx
  rcases hx with hx | ⟨hx, hy⟩
  · have hx := beq_iff_eq.mp hx
    simp only [hx] at q
    exact wpAny_storeName_local hx (hL ▸ S.fr.ns) (fun h' hn hs2 => q () _ _ (S.setL (hL ▸ hn) (hL ▸ hs2))) (by show (env.scope.kind == .class || (env.scope.kind == .module && env.locals != env.globals)) = false; rw [hk]; rfl)
  · have hx := beq_iff_eq.mp hx
    simp only [hx] at q
    obtain ⟨a, ha⟩ := Option.isSome_iff_exists.mp hy
    exact wpAny_storeName_cell hk hx (hC ▸ ha) (S.cl.cell x a ha) fun h' hv hs2 => q () _ s.toks (S.setC ha hv hs2)
theorem store_all {ts : List (Value → Sem Unit)} : ∀ {xs : List Str} {vs : List Value} {m cm : Str → Option Value}, xs.length = vs.length → (∀ x ∈ xs, stOk env cs x = true) → env.locals = L → env.cells = cs → env.scope.kind = .function →
    (Paired (fun x c => ∀ (v : Value) (s : Shared) (Q : Unit → Shared → Prop) (E : Value → Shared → Prop), wpAny (model prog w) A (storeName env x v) Q E s → wpAny (model prog w) A (c v) Q E s) xs ts) →
    Tr (model prog w) A (St K h₀ L cs m cm led) (assignInOrder ts vs) fun _ h' => St K h₀ L cs (stL env xs vs m) (stC env xs vs cm) led h' := by
  induction ts with
  | nil =>
    intro xs vs m cm hl hx hL hC hk hp
    cases hp
    cases vs with
    | nil => exact fun h S => Run.pure S
    | cons _ _ => cases hl
  | cons c ts ih =>
    intro xs vs m cm hl hx hL hC hk hp
    cases hp with
    | cons h1 h2 =>
      rename_i x xs
      cases vs with
      | nil => cases hl
      | cons v vs =>
        intro h S
        refine Run.mk fun s Q E hs q => ?_
        show wpAny _ A (do holding vs (c v); assignInOrder ts vs) Q E s
        refine wpAny_bind (wpAny_holding ((store_one (h1 v) (hx x (List.mem_cons_self ..)) hL hC hk h S).bindK hs fun _ g k r => ?_))
        exact (ih (by simpa using hl) (fun y hy => hx y (List.mem_cons_of_mem _ hy)) hL hC hk h2 g r).bindK rfl q
/-- stores by a tuple display -/
theorem Ex.setsS {α : Sort _} {C : α → List Value → Prop} {led' : α → Ledger} {elts : List Expr} {names : List Str} {k : Nat} {tpos : Pos} {value : Expr} {pos : Pos} {rest : List Stmt} {F : Flow → Heap → Prop} {m cm : Str → Option Value} (hh : A.handled = none)
    (hx : Tr (model prog w) A (St K h₀ L cs m cm led) (eval value env) fun v h' => ∃ y vs t, v = .ref t ∧ C y vs ∧ vs.length = names.length ∧ h'.IsTuple t vs.toArray ∧ St K h₀ L cs m cm (led' y) h')
    (hr : ∀ y vs, C y vs → Ex (model prog w) A (St K h₀ L cs (stL env names.reverse vs.reverse m) (stC env names.reverse vs.reverse cm) (led' y)) env rest F)
    (hok : ∀ x ∈ names, stOk env cs x = true) (hL : env.locals = L := by rfl) (hC : env.cells = cs := by rfl) (hk : env.scope.kind = .function := by rfl)
    (hs : swapsWithSole [.Tuple elts k tpos] value pos.line env = pure false := by rfl)
    (hw : swappedStores [.Tuple elts k tpos] value env = pure (some names) := by rfl) :
    Ex (model prog w) A (St K h₀ L cs m cm led) env (.Assign [.Tuple elts k tpos] value pos :: rest) F := fun h hI => Run.mk fun s Q E hs' q => by
  refine wpAny_execs_cons (Assign_Tuple_swapped (hs := hs) (hw := hw) ((hx h hI).bindK hs' fun v h1 k1 r1 => ?_))
  obtain ⟨y, vs, t, rfl, hCy, hlen, ht, S⟩ := r1
  rw [← hlen, show vs.length = vs.toArray.size from by simp]
  refine unpackItems_tuple hh ht fun h2 he => ?_
  have S2 := St.okk.grow _ _ S (fun b o e => he b o (Nat.ne_of_lt (Heap.lt_size e)) e)
  have hp : ∀ l : List Str, Paired (fun x c => ∀ (v : Value) (s : Shared) (Q : Unit → Shared → Prop) (E : Value → Shared → Prop), wpAny (model prog w) A (storeName env x v) Q E s → wpAny (model prog w) A (c v) Q E s) l (l.map fun n => bindName env n) := fun l => by
    induction l with
    | nil => exact .nil
    | cons a l ih => exact .cons (fun v s Q E h => wpAny_bindName h) ih
  refine (store_all (xs := names.reverse) (by simp [hlen]) (fun x hx => hok x (List.mem_reverse.mp hx)) hL hC hk (hp _) h2 S2).bindK rfl fun _ g k r => ?_
  exact (hr y vs hCy g r).bindK rfl q
end
end Mine

open PySem PySem.W PyProof.Rows
namespace Mine
open PySem
/-- a backslash that is live takes what stands behind it -/
def szAt (cs : List Nat) (esc : Bool) (p : Nat) : Nat := if (decide (cs.getD p 0 = 92) && esc) = true then 2 else 1
theorem szAt_pos (cs : List Nat) (esc : Bool) (p : Nat) : 0 < szAt cs esc p := by unfold szAt; split <;> decide
def unitsOf (cs : List Nat) (esc : Bool) (p : Nat) : List (Nat × Nat) := if p < cs.length then (p, szAt cs esc p) :: unitsOf cs esc (p + szAt cs esc p) else []
termination_by cs.length - p
decreasing_by have := szAt_pos cs esc p; omega
theorem unitsOf_nil {cs : List Nat} {esc : Bool} {p : Nat} (h : ¬ p < cs.length) : unitsOf cs esc p = [] := by rw [unitsOf, if_neg h]
theorem unitsOf_cons {cs : List Nat} {esc : Bool} {p : Nat} (h : p < cs.length) : unitsOf cs esc p = (p, szAt cs esc p) :: unitsOf cs esc (p + szAt cs esc p) := by rw [unitsOf, if_pos h]
theorem unitsOf_pos {cs : List Nat} {esc : Bool} (p : Nat) : ∀ u ∈ unitsOf cs esc p, 0 < u.2 ∧ u.1 < cs.length ∧ p ≤ u.1 := by
  induction p using unitsOf.induct cs esc with
  | case1 p h ih =>
    rw [unitsOf_cons h]
    intro u hu
    rcases List.mem_cons.mp hu with rfl | hu
    · exact ⟨szAt_pos .., h, Nat.le_refl _⟩
    · obtain ⟨a, b, c⟩ := ih u hu
      exact ⟨a, b, by omega⟩
  | case2 p h => rw [unitsOf_nil h]; intro u hu; cases hu
theorem unitsOf_len {cs : List Nat} {esc : Bool} (p : Nat) : (unitsOf cs esc p).length ≤ cs.length - p := by
  induction p using unitsOf.induct cs esc with
  | case1 p h ih =>
    rw [unitsOf_cons h, List.length_cons]
    have := szAt_pos cs esc p
    omega
  | case2 p h => rw [unitsOf_nil h]; exact Nat.zero_le _
/-- where a word may begin -/
def headsOf (cs : List Nat) (p : Nat) (wh : List Nat) : List Nat := ((List.range (cs.length - p)).map (p + ·)).filter fun s => !decide (cs.getD s 0 ∈ wh)
def loneOf (us : List (Nat × Nat)) : List Nat := (us.filter fun u => decide (u.2 = 1)).map (·.1)
def endsOf (cs : List Nat) (q : Bool) (wh : List Nat) (l : List Nat) : List Nat := l.filter fun s => if q = true then decide (cs.getD s 0 = 34) else decide (cs.getD s 0 ∈ wh)
def wordOf (cs : List Nat) (stop : Nat) (us : List (Nat × Nat)) : List Nat := (us.filter fun u => decide (u.1 < stop) && decide (u.1 + u.2 ≤ cs.length)).map fun u => cs.getD (u.1 + u.2 - 1) 0
def stopOf (cs ends : List Nat) : Nat := match ends with | [] => cs.length | e :: _ => e
def quotedAt (cs : List Nat) (h : Nat) : Bool := decide (cs.getD h 0 = 34)
def lawWord (cs : List Nat) (p : Nat) (wh : List Nat) : List Nat × Nat :=
  match headsOf cs p wh with
  | [] => ([], cs.length)
  | h :: _ =>
    let q := quotedAt cs h
    let us := unitsOf cs (q || !decide (92 ∈ wh)) (h + if q = true then 1 else 0)
    let stop := stopOf cs (endsOf cs q wh (loneOf us))
    (wordOf cs stop us, min (stop + 1) cs.length)

/-! values and what they tell -/
def valN : Value → Nat
  | .int n _ => n.toNat
  | _ => 0
theorem IsI.valN {n : Nat} {v : Value} (h : IsN n v) : valN v = n := by obtain ⟨t, rfl⟩ := h; exact Int.toNat_natCast n
theorem AllN.filter {q : Nat → Bool} : ∀ {ns : List Nat} {vs : List Value}, AllN ns vs → AllN (ns.filter q) (vs.filter fun v => q (valN v))
  | [], [], _ => trivial
  | [], _ :: _, e => e.elim
  | _ :: _, [], e => e.elim
  | n :: ns, v :: vs, e => by
    have ih := AllN.filter (q := q) (ns := ns) (vs := vs) e.2
    have hv : valN v = n := IsI.valN e.1
    rw [List.filter_cons, List.filter_cons, hv]
    split
    · exact ⟨e.1, ih⟩
    · exact ih
theorem paired_eq : ∀ {us vs : List Value}, Paired (fun u v => v = u) us vs → vs = us
  | [], _, .nil => rfl
  | _ :: _, _, .cons h t => by rw [paired_eq t, h]
theorem AllN.cons_inv {n : Nat} {ns : List Nat} {vs : List Value} (h : AllN (n :: ns) vs) : ∃ v us, vs = v :: us ∧ IsN n v ∧ AllN ns us := by
  cases vs with
  | nil => exact h.elim
  | cons v us => exact ⟨v, us, rfl, h.1, h.2⟩
theorem AllN.nil_inv {vs : List Value} (h : AllN [] vs) : vs = [] := by
  cases vs with
  | nil => rfl
  | cons _ _ => exact h.elim
/-- a pair of naturals -/
def PU (u : Nat × Nat) (q : Pr) : Prop := IsN u.1 q.x ∧ IsN u.2 q.y
theorem AllN.pairs {us : List (Nat × Nat)} {ps : List Pr} {p : Pr → Bool} {pu : Nat × Nat → Bool} {F : Pr → Value → Prop} {f : Nat × Nat → Nat} (h : Paired PU us ps) :
    ∀ {vs : List Value}, Paired F (ps.filter p) vs → (∀ u q, PU u q → p q = pu u) → (∀ u q v, PU u q → pu u = true → F q v → IsN (f u) v) → AllN ((us.filter pu).map f) vs := by
  induction h with
  | nil => intro vs k _ _; cases k; trivial
  | @cons a b l₁ l₂ hab t ih =>
    intro vs k hp hf
    rw [List.filter_cons] at k ⊢
    rw [← hp _ _ hab]
    cases e : p b with
    | true =>
      rw [e] at k
      simp only [if_true] at k ⊢
      cases k with
      | cons h1 h2 => exact ⟨hf _ _ _ hab ((hp _ _ hab).symm.trans e) h1, ih h2 hp hf⟩
    | false =>
      rw [e] at k
      simp only [Bool.false_eq_true, if_false] at k ⊢
      exact ih k hp hf
theorem Paired.mem_right {α β : Type} {F : α → β → Prop} {l : List α} {m : List β} (h : Paired F l m) : ∀ b ∈ m, ∃ a ∈ l, F a b := by
  induction h with
  | nil => intro b hb; cases hb
  | cons h t ih =>
    intro b hb
    rcases List.mem_cons.mp hb with rfl | hb
    · exact ⟨_, List.mem_cons_self .., h⟩
    · obtain ⟨a, ha, k⟩ := ih b hb
      exact ⟨a, List.mem_cons_of_mem _ ha, k⟩
theorem up_self {m : Str → Option Value} {x : Str} {v : Value} : up m x v x = some v := if_pos rfl
theorem up_ne {m : Str → Option Value} {x y : Str} {v : Value} (h : y ≠ x) : up m x v y = m y := if_neg h
end Mine

open PySem PySem.W PyProof.Rows
set_option maxRecDepth 100000
namespace Mine
open PySem PySem.W PySem.Calls PyProof.Rows
section
variable {K : Frag} {h₀ : Heap} {L : Addr} {cs : List (Str × Addr)} {m cm : Str → Option Value} {led : Ledger}
theorem AlL.left {I : Heap → Prop} {a b : Ledger} {h' : Heap} (x : AlL I (a ++ b) h') : AlL I a h' := by
  obtain ⟨h1, i, k, p, n⟩ := x
  refine ⟨h1, i, k, fun q hq => p q (List.mem_append_left _ hq), ?_⟩
  unfold ads at n ⊢
  rw [List.map_append] at n
  exact (List.nodup_append.mp n).1
def tl (ps : List Pr) : Ledger := ps.map fun q => (q.at_, TT [q.x, q.y])
theorem tl_has {ps : List Pr} {q : Pr} (h : q ∈ ps) : (q.at_, TT [q.x, q.y]) ∈ tl ps := List.mem_map.mpr ⟨q, h, rfl⟩
theorem St.pairs {g : Heap} {ps : List Pr} (S : St K h₀ L cs m cm led g) (hs : ∀ x ∈ tl ps, x ∈ led) : ∀ q ∈ ps, PrAt g q := fun q hq => by
  obtain ⟨⟨o, ho, hp⟩, _⟩ := S.ld _ (hs _ (tl_has hq))
  exact TT.at ho hp
theorem St.cellE {g g' : Heap} (S : St K h₀ L cs m cm led g) (k : Ext g g') {n : Str} {c : Addr} {v : Value} (hc : cs.lookup n = some c) (hm : cm n = some v) : g'.IsCell c (some v) := hm ▸ (S.cl.cell n c hc).keeps k
end
section
variable {prog : Program} {w : World} {K : Frag} {A : Around} {I : Heap → Prop} {env : Env}
theorem len_all : ∀ {Vs : List (Value → Prop)} {vs : List Value}, AllV Vs vs → vs.length = Vs.length := fun h => AllV.length h
theorem Src.bound {xv : Value} {h₁ : Heap} {n : Nat} {P : Nat → Value → Prop} (x : Src prog w A xv h₁ n P) : Src prog w A xv h₁ n fun i v => i < n ∧ P i v := fun s Q E hs q =>
  x s Q E hs fun It T h' k fp wr a W b c d => q It T h' k fp wr a W.bound b c d
theorem n_sub {x y : Nat} (h : y ≤ x) (a b : Value) (ha : IsN x a) (hb : IsN y b) : Tr (model prog w) A I (binaryOp .Sub a b) fun c h' => IsN (x - y) c ∧ I h' := by
  have := o_sub (prog := prog) (w := w) (A := A) (I := I) (x := x) (y := y) a b ha hb
  rwa [← Int.ofNat_sub h] at this
/-- a list against the empty display -/
theorem Tv.eqNil {e : Expr} {p pos : Pos} {l : Addr} {vs : List Value} (hI : Okk K I) (hu : A.units < cLine) (x : Ev (model prog w) A I env e (IsR l)) (hl : ∀ h, I h → h.IsList l vs.toArray) :
    Tv (model prog w) A I env (.Compare e [.Eq] [.List [] p] pos) (decide (vs = [])) := by
  refine Tv.cmp2 (J := fun a h => IsR l a ∧ I h) (J2 := fun a b h => IsR l a ∧ ∃ us, AllV [] us ∧ Al I (PL us) b h) x (fun a => Tr.pull fun ha => Tr.mono (Tr.list Es.nil (by unfold szs; decide)) fun _ _ r => ⟨ha, r⟩) fun a b h hh => ?_
  obtain ⟨rfl, us, hus, al⟩ := hh
  have hus : us = [] := by cases us with | nil => rfl | cons _ _ => exact hus.elim
  subst hus
  have i := al.back hI
  obtain ⟨h1, l2, o, rfl, i1, k1, n1, g1, n, rfl⟩ := al
  refine (eq_lists (I := fun g => g = h) (xs := vs) (ys := []) hu (fun g e => e ▸ hl _ i) (fun g e => e ▸ ⟨_, g1, rfl, _, rfl⟩) (fun g e => ⟨fun _ => true, fun s _ j _ h2 => absurd h2 (Nat.not_lt_zero _), ?_⟩) h rfl).mono fun d g r => ⟨r.1, r.2 ▸ i⟩
  cases vs with
  | nil => rfl
  | cons _ _ => rfl
end

/-! displays whose elements make objects, told by the ledger -/
section
variable {prog : Program} {w : World} {K : Frag} {A : Around} {env : Env} {h₀ : Heap} {L : Addr} {cs : List (Str × Addr)} {m cm : Str → Option Value} {led : Ledger}
def TrS (M : Model) (A : Around) (K : Frag) (h₀ : Heap) (L : Addr) (cs : List (Str × Addr)) (m cm : Str → Option Value) (led : Ledger) (t : Sem Value) (C : Value → Ledger → Prop) : Prop := Tr M A (St K h₀ L cs m cm led) t fun v h' => ∃ led', C v led' ∧ St K h₀ L cs m cm led' h'
def EsS (M : Model) (A : Around) (K : Frag) (h₀ : Heap) (L : Addr) (cs : List (Str × Addr)) (m cm : Str → Option Value) (led : Ledger) (env : Env) (es : List Expr) (R : List Value → Ledger → Prop) : Prop := EsT M A (St K h₀ L cs m cm led) env es fun vs h' => ∃ led', R vs led' ∧ St K h₀ L cs m cm led' h'
theorem EsS.nil : EsS (model prog w) A K h₀ L cs m cm led env [] fun vs led' => vs = [] ∧ led' = led := EsT.mono EsT.nil fun vs h r => ⟨led, ⟨r.1, rfl⟩, r.2⟩
theorem EsS.cons {e : Expr} {rest : List Expr} {C : Value → Ledger → Prop} {R : Value → Ledger → List Value → Ledger → Prop} (x : TrS (model prog w) A K h₀ L cs m cm led (eval e env) C) (y : ∀ v led1, C v led1 → EsS (model prog w) A K h₀ L cs m cm led1 env rest (R v led1))
    (he : starEach (e :: rest) env = (false, eval e env) :: starEach rest env := by rfl) : EsS (model prog w) A K h₀ L cs m cm led env (e :: rest) fun vs led' => ∃ v us led1, vs = v :: us ∧ C v led1 ∧ R v led1 us led' := by
  refine EsT.mono (EsT.cons (he := he) (R := fun v us h => ∃ led1, C v led1 ∧ ∃ led', R v led1 us led' ∧ St K h₀ L cs m cm led' h) x fun v => fun pos => Tr.exs fun led1 => Tr.pull fun hC => Tr.mono (y v led1 hC pos) fun us h r => ⟨led1, hC, r⟩) ?_
  rintro vs h ⟨v, us, rfl, led1, hC, led', hR, S⟩
  exact ⟨led', ⟨v, us, led1, rfl, hC, hR⟩, S⟩
theorem TrS.tuple {elts : List Expr} {k : Nat} {pos : Pos} {R : List Value → Ledger → Prop} (y : EsS (model prog w) A K h₀ L cs m cm led env elts R) (hz : ∀ vs led', R vs led' → vs.length ≤ 100) :
    TrS (model prog w) A K h₀ L cs m cm led (eval (.Tuple elts k pos) env) fun v led' => ∃ vs t led1, R vs led1 ∧ v = .ref t ∧ led' = (t, TT vs) :: led1 :=
  Tr.mono (Tr.tupleT y fun vs h ⟨_, r, _⟩ => hz _ _ r) fun v h' ⟨vs, h1, l, o, e, ⟨led1, hR, S⟩, k, n, g, p⟩ => ⟨_, ⟨vs, l, led1, hR, e, rfl⟩, S.add k n g p⟩
theorem Ev.s {e : Expr} {V : Value → Prop} (x : Ev (model prog w) A (St K h₀ L cs m cm led) env e V) : TrS (model prog w) A K h₀ L cs m cm led (eval e env) fun v led' => V v ∧ led' = led := Tr.mono x fun _ _ r => ⟨led, ⟨r.1, rfl⟩, r.2⟩
theorem TrS.of {α : Sort _} {e : Expr} {C : α → Value → Prop} {led1 : α → Ledger} (x : Tr (model prog w) A (St K h₀ L cs m cm led) (eval e env) fun v h' => ∃ y, C y v ∧ St K h₀ L cs m cm (led1 y) h') :
    TrS (model prog w) A K h₀ L cs m cm led (eval e env) fun v led' => ∃ y, C y v ∧ led' = led1 y := Tr.mono x fun _ _ ⟨y, h, S⟩ => ⟨_, ⟨y, h, rfl⟩, S⟩
theorem TrS.nlist {elts : List Expr} {pos : Pos} {ns : List Nat} (y : Es (model prog w) A (St K h₀ L cs m cm led) env elts (ns.map fun n => IsN n)) (hz : szs ns.length := by unfold szs; first | decide | (simp only [List.length_cons, List.length_nil]; omega)) :
    TrS (model prog w) A K h₀ L cs m cm led (eval (.List elts pos) env) fun v led' => ∃ l vs, v = .ref l ∧ AllN ns vs ∧ led' = (l, PL vs) :: led := Tr.mono (Tr.nlist y hz) fun _ _ ⟨x, h, S⟩ => ⟨_, ⟨x.1, x.2, h.1, h.2, rfl⟩, S⟩
theorem TrS.mono {t : Sem Value} {C C' : Value → Ledger → Prop} (x : TrS (model prog w) A K h₀ L cs m cm led t C) (k : ∀ v led', C v led' → C' v led') : TrS (model prog w) A K h₀ L cs m cm led t C' := Tr.mono x fun v _ ⟨l, c, S⟩ => ⟨l, k v l c, S⟩
/-- stores by a tuple display -/
theorem Ex.sets {C : List Value → Ledger → Prop} {elts : List Expr} {names : List Str} {k k' : Nat} {tpos vpos : Pos} {es : List Expr} {pos : Pos} {rest : List Stmt} {F : Flow → Heap → Prop} (hh : A.handled = none)
    (hx : EsS (model prog w) A K h₀ L cs m cm led env es C) (hlen : ∀ vs l, C vs l → vs.length = names.length)
    (hr : ∀ vs led', C vs led' → Ex (model prog w) A (St K h₀ L cs (stL env names.reverse vs.reverse m) (stC env names.reverse vs.reverse cm) led') env rest F)
    (hn : names.length ≤ 100 := by decide) (hok : names.all (stOk env cs) = true := by rfl) (hL : env.locals = L := by rfl) (hC : env.cells = cs := by rfl) (hk : env.scope.kind = .function := by rfl)
    (hs : swapsWithSole [.Tuple elts k tpos] (.Tuple es k' vpos) pos.line env = pure false := by rfl)
    (hw : swappedStores [.Tuple elts k tpos] (.Tuple es k' vpos) env = pure (some names) := by rfl) :
    Ex (model prog w) A (St K h₀ L cs m cm led) env (.Assign [.Tuple elts k tpos] (.Tuple es k' vpos) pos :: rest) F := by
  refine Ex.setsS (C := fun (led' : Ledger) vs => C vs led') (led' := fun x => x) (names := names) hh (Tr.mono (TrS.tuple hx fun vs l c => by rw [hlen _ _ c]; exact hn) ?_) (fun y vs c => hr vs y c) (List.all_eq_true.mp hok) hL hC hk hs hw
  rintro v h' ⟨_, ⟨vs, t, led1, c, rfl, rfl⟩, S⟩
  exact ⟨led1, vs, t, rfl, c, hlen _ _ c, S.has_tup (i := 0) rfl, S.drop1⟩
/-- o.append(e) -/
theorem Ex.appendS {o e : Expr} {apos pos spos : Pos} {rest : List Stmt} {C : Value → Ledger → Prop} {l : Addr} {vs : List Value} {G : Flow → Heap → Prop} (i j : Nat) (ho : Ev (model prog w) A (St K h₀ L cs m cm led) env o (IsR l)) (hi : led[i]? = some (l, PL vs)) (hz : szs vs.length)
    (hx : TrS (model prog w) A K h₀ L cs m cm led (eval e env) C) (hj : ∀ v led1, C v led1 → led1[j]? = some (l, PL vs))
    (hr : ∀ v led1, C v led1 → Ex (model prog w) A (St K h₀ L cs m cm (led1.set j (l, PL (vs ++ [v])))) env rest G)
    (he : eval (.Call (.Attribute o "append" apos) [e] [] pos) env = (do
      let ov ← eval o env
      standAt apos.atName
      let (f, first) ← holding [ov] (getMethod ov "append" (do return (← importBound o env).getD true))
      callWith pos f first (backTo pos (starEach [e] env)) []) := by rfl) (he2 : starEach [e] env = (false, eval e env) :: starEach [] env := by rfl)
    (hi' : interactive env = false := by rfl) (hs : swapsWith (.Call (.Attribute o "append" apos) [e] [] pos) none spos.line env = pure false := by rfl) :
    Ex (model prog w) A (St K h₀ L cs m cm led) env (.Expr (.Call (.Attribute o "append" apos) [e] [] pos) spos :: rest) G := by
  refine Ex.expr (hi := hi') (hs := hs) (J := fun g => ∃ v led1, C v led1 ∧ St K h₀ L cs m cm (led1.set j (l, PL (vs ++ [v]))) g)
    (Tr.lmeth (Vs := []) (id := "list.append") (he := he) ho (fun g S => ⟨_, S.list hi⟩) F.slot_list_append rfl fun pos => Tr.args1 (he := he2) hx fun v => ?_) (fun g ⟨v, led1, hC, S⟩ => hr v led1 hC g S)
  rintro g ⟨led1, hC, S⟩
  have hj' := hj v led1 hC
  refine Run.mono (append_ok (I := St K h₀ L cs m cm led1) (J := St K h₀ L cs m cm (led1.set j (l, PL (vs ++ [v])))) (vs := vs) (fun g S => S.list hj') hz (fun g g' S hs hp => ?_) g S) fun a g' r => ⟨r.1, v, led1, hC, r.2⟩
  obtain ⟨n, hn⟩ := hp
  exact S.put hj' hs hn ⟨n, rfl⟩
/-- while, told by the locals, the cells and the ledger -/
theorem Ex.whileS {test : Expr} {body rest : List Stmt} {pos : Pos} (R : Nat → (Str → Option Value) → (Str → Option Value) → Ledger → Prop) (X : (Str → Option Value) → (Str → Option Value) → Ledger → Prop) {G : Flow → Heap → Prop} (n : Nat) (h0 : R n m cm led)
    (ht : ∀ k m cm led, R k m cm led → ∃ b, Tv (model prog w) A (St K h₀ L cs m cm led) env test b ∧
      (b = true → Ex (model prog w) A (St K h₀ L cs m cm led) env body fun fl h' => fl = .next ∧ ∃ k' m' cm' led', k' < k ∧ R k' m' cm' led' ∧ St K h₀ L cs m' cm' led' h') ∧ (b = false → X m cm led))
    (hr : ∀ m cm led, X m cm led → Ex (model prog w) A (St K h₀ L cs m cm led) env rest G) : Ex (model prog w) A (St K h₀ L cs m cm led) env (.While test body [] pos :: rest) G := by
  refine Ex.while_ (J := fun k g => ∃ m cm led, R k m cm led ∧ St K h₀ L cs m cm led g)
    (T := fun k g => ∃ m cm led, Ex (model prog w) A (St K h₀ L cs m cm led) env body (fun fl h' => fl = .next ∧ ∃ k' m' cm' led', k' < k ∧ R k' m' cm' led' ∧ St K h₀ L cs m' cm' led' h') ∧ St K h₀ L cs m cm led g)
    (X := fun g => ∃ m cm led, X m cm led ∧ St K h₀ L cs m cm led g) n (fun g S => ⟨_, _, _, h0, S⟩) (fun k g ⟨m, cm, led, hR, S⟩ => ?_) (fun k g ⟨m, cm, led, hb, S⟩ => Run.mono (hb g S) fun fl h' ⟨e, k', m', cm', led', hk, hR, S'⟩ => ⟨e, k', hk, m', cm', led', hR, S'⟩)
    (fun g ⟨m, cm, led, hX, S⟩ => hr m cm led hX g S)
  obtain ⟨b, ht, hb, hx⟩ := ht k m cm led hR
  refine Run.mono (ht g S) fun c h' r => ?_
  obtain ⟨rfl, S'⟩ := r
  cases c with
  | true => simp only [if_true]; exact ⟨m, cm, led, hb rfl, S'⟩
  | false => simp only [Bool.false_eq_true, if_false]; exact ⟨m, cm, led, hx rfl, S'⟩
end
end Mine

open PySem PySem.W PyProof.Rows
set_option maxRecDepth 100000
namespace Mine
open PySem PySem.W PySem.Calls PyProof.Rows
theorem AllN.get {ns : List Nat} {vs : List Value} (h : AllN ns vs) {k : Nat} (hk : k < ns.length) : ∃ u, vs[k]? = some u ∧ IsN (ns.getD k 0) u := by
  have hl := h.length
  have e : vs[k]? = some (vs[k]'(by omega)) := List.getElem?_eq_getElem (by omega)
  obtain ⟨n, hn, hu⟩ := AllV.at h e
  refine ⟨_, e, ?_⟩
  rw [List.getD_eq_getElem?_getD, hn]
  exact hu
section
variable {prog : Program} {w : World} {K : Frag} {A : Around} {I : Heap → Prop} {env : Env}
theorem Ev.itemN {e ix : Expr} {pos : Pos} {l : Addr} {vs : List Value} {ns : List Nat} {k : Nat} (x : Ev (model prog w) A I env e (IsR l)) (i : Ev (model prog w) A I env ix (IsN k)) (hi : AllN ns vs) (hl : ∀ h, I h → h.IsList l vs.toArray)
    (hk : k < ns.length) (hz : ns.length ≤ 1000000) (hsub : ∀ t, subscripted ix false (.ref l) (.int k t) = operate [.ref l, .int k t] (getItem (.ref l) (.int k t)) := by intro _; with_unfolding_all rfl) :
    Ev (model prog w) A I env (.Subscript e ix pos) (IsN (ns.getD k 0)) := by
  obtain ⟨u, hu, hn⟩ := AllN.get hi hk
  exact Ev.mono (Ev.item x i hl (by omega) (by omega) hu hsub) fun v e => e ▸ hn
theorem len_okN {l : Addr} {vs : List Value} {ns : List Nat} (hi : AllN ns vs) (hl : ∀ h, I h → h.IsList l vs.toArray) (hz : ns.length ≤ 1000000) : ∀ as, AllV [IsR l] as → Tr (model prog w) A I (call (.builtin "len") as []) fun a h' => IsN ns.length a ∧ I h' := by
  have := hi.length
  rw [← this]
  exact len_ok hl (by unfold szs; omega)
theorem min_okN {x y : Nat} (hI : Okk K I) (hh : A.handled = none) : ∀ vs, AllV [IsN x, IsN y] vs → Tr (model prog w) A I (call (.builtin "min") vs []) fun v h' => IsN (min x y) v ∧ I h' := by
  have e : ((min x y : Nat) : Int) = min (x : Int) (y : Int) := by omega
  intro vs h
  have := min_ok (prog := prog) (w := w) hI hh (x := (x : Int)) (y := (y : Int)) vs h
  unfold IsN
  rw [e]
  exact this
end
section
variable {prog : Program} {w : World} {A : Around}
def WordR (cs : List Nat) (p : Nat) (wh : List Nat) (v : Value) (news : Ledger) : Prop :=
  ∃ t l vs vn, v = .ref t ∧ news = [(t, TT [.ref l, vn]), (l, PL vs)] ∧ AllN (lawWord cs p wh).1 vs ∧ IsN (lawWord cs p wh).2 vn

theorem cn_word {lc lw : Addr} {cvs wvs : List Value} {cs wh : List Nat} {vp : Value} {p : Nat} (r : Room A 2) (hh : A.handled = none) (hc : AllN cs cvs) (hw : AllN wh wvs) (hp : IsN p vp) (hpl : p ≤ cs.length) (hz : cs.length ≤ 1000) :
    Cn prog w (KK w) A (.ref 220) [.ref lc, vp, .ref lw] (fun h => h.IsList lc cvs.toArray ∧ h.IsList lw wvs.toArray) fun h v h' => ∃ news, WordR cs p wh v news ∧ AlL (fun g => g = h) news h' := by
  refine Cn.of_body (mu := []) (binds := [(PySem.Str.ofString "codes", .ref lc), (PySem.Str.ofString "place", vp), (PySem.Str.ofString "white", .ref lw)]) r (kk_look (by k_is)) (kk_code (by k_is)) rfl rfl (by decide) rfl (fun _ _ p hp => nomatch hp) (fun _ hp => nomatch hp) (by decide) fun h h₀ L W hpre hB hL => ?_
  have base : ∀ {a : Addr} {xs : List Value} {g : Heap}, h.IsList a xs.toArray → Ext h₀ g → g.IsList a xs.toArray := fun x k => let ⟨o, ho, r⟩ := x; ⟨o, k _ _ (hB _ o (by simp [ads]) ho), r⟩
  have hcw := hc.length
  -- heads
  refine Ex.setComp (n := cs.length - p) (P := fun i v => i < cs.length - p ∧ IsI ((p : Int) + (i : Int)) v) (p := fun v => !decide (cs.getD (valN v) 0 ∈ wh)) (F := fun u v => v = u) (cl := [(PySem.Str.ofString "white", L + 2), (PySem.Str.ofString "codes", L + 1)]) ?_ (by omega) rfl fun D us vs hlen hP hF => ?_
  · refine Tr.mono (Tr.callT (Ev.builtin St.okk (g_range w) boot_range (by decide)) (Es.cons (Ev.mono (Ev.locS rfl) fun _ e => e ▸ hp) (Es.cons (Ev.callB (Ev.builtin St.okk (g_len w) boot_len (by decide)) (Es.cons (Ev.cellS (c := L + 1) rfl rfl) Es.nil) (len_okN hc (fun g S => base hpre.1 S.base) (by omega))) Es.nil)) range2_ok) fun xv h₁ al => ?_
    have S := al.back St.okk
    obtain ⟨h1, l, o, rfl, S1, k1, hn1, ho1, t, u, v, rfl⟩ := al
    refine ⟨S, Src.bound (Src.range (a := (p : Int)) (b := (cs.length : Int)) (n := cs.length - p) hh ⟨t, u, v, ho1⟩ (by omega) (by omega) (by omega) (by omega) (by omega)), fun C i u g hP k => one_test (Tv.cmp ?_ ?_ (c_ninL (ns := wh) hw fun g' i => base hpre.2 (S.base.trans (k.trans i.1)))), fun C i u g hP _ k => Ev.own⟩
    · obtain ⟨hlt, hP⟩ := hP
      have hP' : IsN (p + i) u := by unfold IsN; rw [Int.natCast_add]; exact hP
      rw [IsI.valN hP']
      refine Ev.itemN ?_ (Ev.mono Ev.own fun _ e => e ▸ hP') hc (fun g' i => base hpre.1 (S.base.trans (k.trans i.1))) (by omega) (by omega)
      exact Ev.cellI (c := L + 1) (fun g' i => S.cellE (n := PySem.Str.ofString "codes") (v := .ref lc) (k.trans i.1) rfl rfl) rfl
    · exact Ev.cellI (c := L + 2) (fun g' i => S.cellE (n := PySem.Str.ofString "white") (v := .ref lw) (k.trans i.1) rfl rfl) rfl
  have hvs : AllN (headsOf cs p wh) vs := by
    rw [paired_eq hF]
    refine AllN.filter (AllV.of_get (by rw [hlen]; simp) fun j u a x y => ?_)
    have hj := (hP j u x).2
    rw [List.getElem?_map, List.getElem?_range (hP j u x).1] at y
    cases y
    unfold IsN; rw [Int.natCast_add]; exact hj
  have hvl := hvs.length
  have hhl : (headsOf cs p wh).length ≤ cs.length := by
    unfold headsOf
    refine Nat.le_trans (List.length_filter_le ..) ?_
    simp
  -- no head
  refine Ex.if_ (b := decide (vs = [])) (J := fun g => vs ≠ [] ∧ St _ h₀ L _ _ _ _ g) (Tv.eqNil St.okk ?_ (Ev.locS rfl) fun g S => (S.list (i := 0) rfl).isList) (fun e => ?_) (fun e => Ex.nil fun g S => ⟨of_decide_eq_false e, S⟩) (Ex.pull fun hne => ?_)
  · exact (r.deeper _).units
  · have e := of_decide_eq_true e
    subst e
    have e : headsOf cs p wh = [] := by cases z : headsOf cs p wh with | nil => rfl | cons a b => rw [z] at hvs; exact hvs.elim
    refine Ex.retA (TrS.tuple (EsS.cons (TrS.nlist (ns := []) Es.nil) fun v led1 hv => EsS.cons (Ev.s (V := IsN cs.length) ?_) fun v led1 hv => EsS.nil) ?_) ?_
    · obtain ⟨l, us, rfl, _, rfl⟩ := hv
      exact Ev.callB (Ev.builtin St.okk (g_len w) boot_len (by decide)) (Es.cons (Ev.cellS (c := L + 1) rfl rfl) Es.nil) (len_okN hc (fun g S => base hpre.1 S.base) (by omega))
    · rintro vs led' ⟨v, us, led1, rfl, _, u, us', led2, rfl, _, rfl, _⟩
      exact Nat.le_of_ble_eq_true rfl
    · rintro v g ⟨led', ⟨us, t, led1, ⟨v1, us1, led2, rfl, ⟨l, vs1, rfl, hvs1, rfl⟩, v2, us2, led3, rfl, ⟨hv2, rfl⟩, rfl, rfl⟩, rfl, rfl⟩, S⟩
      refine ⟨.ref t, .inl rfl, [(t, TT [.ref l, v2]), (l, PL vs1)], ⟨t, l, vs1, v2, rfl, rfl, ?_, ?_⟩, AlL.left (b := [(D, PL [])]) (S.rets hB)⟩
      · unfold lawWord; rw [e]; exact hvs1
      · unfold lawWord; rw [e]; exact hv2
  -- a head
  obtain ⟨hd0, hs, ehs⟩ : ∃ a b, headsOf cs p wh = a :: b := by
    cases z : headsOf cs p wh with
    | nil => rw [z] at hvs; exact absurd hvs.nil_inv hne
    | cons a b => exact ⟨a, b, rfl⟩
  have hhd : hd0 < cs.length := by
    have : hd0 ∈ headsOf cs p wh := by rw [ehs]; exact List.mem_cons_self ..
    unfold headsOf at this
    obtain ⟨j, hj, rfl⟩ := List.mem_map.mp (List.mem_filter.mp this).1
    have := List.mem_range.mp hj
    omega
  rw [ehs] at hvs
  have hv0 : ∀ {I : Heap → Prop} {e : Expr} {k : Nat} {pos pos' : Pos} {env : Env}, Ev (model prog w) (A.deeper env) I env e (IsR D) → (∀ g, I g → g.IsList D vs.toArray) → Ev (model prog w) (A.deeper env) I env (.Subscript e (.Constant (.int 0) k pos') pos) (IsN hd0) := fun x y =>
    Ev.itemN (k := 0) (ns := hd0 :: hs) x Ev.nat hvs y (by simp) (by rw [← ehs]; omega)
  refine Ex.setC (c := L + 3) (C := fun (_ : Unit) u => IsB (quotedAt cs hd0) u) (led' := fun _ => [(D, PL vs)]) rfl (Ev.toS ?_) fun _ vq hvq => ?_
  · refine Ev.cmp (Ev.itemN (Ev.cellS (c := L + 1) rfl rfl) (hv0 (Ev.locS rfl) fun g S => (S.list (i := 0) rfl).isList) hc (fun g S => base hpre.1 S.base) hhd (by omega)) Ev.nat d_eq
  cases hvq
  generalize hq : quotedAt cs hd0 = q
  refine Ex.sets (names := [PySem.Str.ofString "place", PySem.Str.ofString "units"]) hh (EsS.cons (Ev.s (V := IsN (hd0 + if q = true then 1 else 0)) ?_) fun v led1 hv => EsS.cons (TrS.nlist (ns := []) Es.nil) fun v led1 hv => EsS.nil) ?_ ?_
  · refine Ev.bin (hv0 (Ev.locS rfl) fun g S => (S.list (i := 0) rfl).isList) (Ev.ife (b := q) (Tv.plain (Ev.cellS (c := L + 3) rfl rfl) tr_bool) (fun e => ?_) (fun e => ?_)) n_add
    · rw [if_pos e]; exact Ev.nat
    · rw [if_neg (by rw [e]; decide)]; exact Ev.nat
  · rintro xs l ⟨v, us, led1, rfl, _, v2, us2, led2, rfl, _, rfl, _⟩
    rfl
  rintro xs l ⟨vp1, us, led1, rfl, ⟨hvp1, rfl⟩, v2, us2, led2, rfl, ⟨lu, us0, rfl, hus0, rfl⟩, rfl, rfl⟩
  cases hus0.nil_inv
  generalize hesc : (q || !decide (92 ∈ wh)) = esc
  generalize hp1 : (hd0 + if q = true then 1 else 0) = p1 at hvp1
  have hul : (unitsOf cs esc p1).length ≤ cs.length := Nat.le_trans (unitsOf_len p1) (Nat.sub_le ..)
  refine Ex.whileS (R := fun k m cm led => ∃ (dn : List (Nat × Nat)) (ps : List Pr) (vp : Value) (pl : Nat), IsN pl vp ∧ m (PySem.Str.ofString "place") = some vp ∧ m (PySem.Str.ofString "units") = some (.ref lu) ∧
      cm (PySem.Str.ofString "codes") = some (.ref lc) ∧ cm (PySem.Str.ofString "white") = some (.ref lw) ∧ cm (PySem.Str.ofString "quoted") = some (.bool q) ∧
      dn ++ unitsOf cs esc pl = unitsOf cs esc p1 ∧ Paired PU dn ps ∧ k = cs.length - pl ∧ led = (lu, PL (ps.map fun q => Value.ref q.at_)) :: (tl ps.reverse ++ [(D, PL vs)]))
    (X := fun m cm led => ∃ (ps : List Pr), m (PySem.Str.ofString "units") = some (.ref lu) ∧
      cm (PySem.Str.ofString "codes") = some (.ref lc) ∧ cm (PySem.Str.ofString "white") = some (.ref lw) ∧ cm (PySem.Str.ofString "quoted") = some (.bool q) ∧
      Paired PU (unitsOf cs esc p1) ps ∧ led = (lu, PL (ps.map fun q => Value.ref q.at_)) :: (tl ps.reverse ++ [(D, PL vs)]))
    (cs.length - p1) ⟨[], [], vp1, p1, hvp1, rfl, rfl, rfl, rfl, rfl, rfl, .nil, rfl, rfl⟩ ?_ ?_
  · rintro k m cm led ⟨dn, ps, vp, pl, hvp, hm1, hm2, hc1, hc2, hc3, hdn, hps, rfl, rfl⟩
    have hdl : dn.length + (unitsOf cs esc pl).length = (unitsOf cs esc p1).length := by rw [← hdn, List.length_append]
    have hpl' : ps.length = dn.length := hps.length.symm
    refine ⟨decide (pl < cs.length), Tv.cmp (Ev.mono (Ev.locS hm1) fun _ e => e ▸ hvp) (Ev.callB (Ev.builtin St.okk (g_len w) boot_len (by decide)) (Es.cons (Ev.cellS (c := L + 1) hc1 rfl) Es.nil) (len_okN hc (fun g S => base hpre.1 S.base) (by omega))) d_lt, fun e => ?_, fun e => ⟨ps, hm2, hc1, hc2, hc3, ?_, rfl⟩⟩
    · have hlt := of_decide_eq_true e
      refine Ex.setS (C := fun (_ : Unit) u => IsN (szAt cs esc pl) u) (led' := fun _ => (lu, PL (ps.map fun q => Value.ref q.at_)) :: (tl ps.reverse ++ [(D, PL vs)])) (Ev.toS (Ev.ife (Tv.and (Tv.cmp (Ev.itemN (Ev.cellS (c := L + 1) hc1 rfl) (Ev.mono (Ev.locS hm1) fun _ e => e ▸ hvp) hc (fun g S => base hpre.1 S.base) hlt (by omega)) Ev.nat d_eq) fun _ => Tv.and (Tv.or (Tv.plain (Ev.cellS (c := L + 3) hc3 rfl) tr_bool) fun _ => Tv.or (Tv.cmp Ev.nat (Ev.cellS (c := L + 2) hc2 rfl) (c_ninL hw fun g S => base hpre.2 S.base)) fun _ => Tv.or_nil) fun _ => Tv.and_nil) (fun e => ?_) (fun e => ?_))) fun _ vz hvz => ?_
      · rw [Bool.or_false, Bool.and_true, hesc] at e
        unfold szAt; rw [if_pos e]; exact Ev.nat
      · rw [Bool.or_false, Bool.and_true, hesc] at e
        unfold szAt; rw [if_neg (by rw [e]; decide)]; exact Ev.nat
      have hm1' : up m (PySem.Str.ofString "size") vz (PySem.Str.ofString "place") = some vp := (up_ne (by decide)).trans hm1
      have hm2' : up m (PySem.Str.ofString "size") vz (PySem.Str.ofString "units") = some (.ref lu) := (up_ne (by decide)).trans hm2
      refine Ex.appendS 0 1 (Ev.locS hm2') rfl (by unfold szs; rw [List.length_map]; omega) (TrS.tuple (EsS.cons (Ev.locS hm1').s fun v led1 hv => EsS.cons (Ev.locS up_self).s fun v led1 hv => EsS.nil) ?_) ?_ ?_
      · rintro xs led1 ⟨v, us, led2, rfl, _, v2, us2, led3, rfl, _, rfl, _⟩
        exact Nat.le_of_ble_eq_true rfl
      · rintro v led1 ⟨xs, t, led2, ⟨v1, us, led3, rfl, ⟨rfl, rfl⟩, v2, us2, led4, rfl, ⟨rfl, rfl⟩, rfl, rfl⟩, rfl, rfl⟩
        rfl
      rintro v led1 ⟨xs, t, led2, ⟨v1, us, led3, rfl, ⟨rfl, rfl⟩, v2, us2, led4, rfl, ⟨rfl, rfl⟩, rfl, rfl⟩, rfl, rfl⟩
      refine Ex.setS (C := fun (_ : Unit) u => IsN (pl + szAt cs esc pl) u) (led' := fun _ => (t, TT [v1, v2]) :: (lu, PL ((ps.map fun q => Value.ref q.at_) ++ [.ref t])) :: (tl ps.reverse ++ [(D, PL vs)])) (Ev.toS (Ev.bin (Ev.mono (Ev.locS hm1') fun _ e => e ▸ hvp) (Ev.mono (Ev.locS up_self) fun _ e => e ▸ hvz) n_add)) fun _ vp2 hvp2 => Ex.nil fun g S => ?_
      replace S := S.swap
      have hsp := szAt_pos cs esc pl
      refine ⟨rfl, cs.length - (pl + szAt cs esc pl), _, cm, _, by omega, ⟨dn ++ [(pl, szAt cs esc pl)], ps ++ [⟨t, v1, v2⟩], vp2, _, hvp2, up_self, (up_ne (by decide)).trans hm2', hc1, hc2, hc3, ?_, hps.snoc ⟨hvp, hvz⟩, rfl, ?_⟩, S⟩
      · rw [List.append_assoc, ← hdn, unitsOf_cons hlt]; rfl
      · rw [List.map_append, List.reverse_append]; rfl
    · rw [unitsOf_nil (of_decide_eq_false e), List.append_nil] at hdn
      exact hdn ▸ hps
  rintro m cm led ⟨ps, hm2, hc1, hc2, hc3, hps, rfl⟩
  have hpl : ps.length ≤ cs.length := by rw [← hps.length]; exact hul
  have hus := unitsOf_pos (cs := cs) (esc := esc) p1
  generalize husq : unitsOf cs esc p1 = us at hps hul hus
  have hsub : ∀ x ∈ tl ps, x ∈ tl ps.reverse ++ [(D, PL vs)] := fun x hx => by
    obtain ⟨q, hq, rfl⟩ := List.mem_map.mp hx
    exact List.mem_append_left _ (tl_has (List.mem_reverse.mpr hq))
  generalize hled : tl ps.reverse ++ [(D, PL vs)] = led at hsub
  -- lone
  refine Ex.setComp2 (ax := lu) (ps := ps) (p := fun q => decide (valN q.y = 1)) (F := fun q v => v = q.x) (cl := []) hh (by omega) ?_ rfl fun D2 vs2 hF2 => ?_
  · refine Tr.mono (Ev.locS hm2) fun xv g r => ?_
    obtain ⟨rx, S⟩ := r
    have hW := S.wdh
    refine ⟨rx, S, (S.list (i := 0) rfl).isList, S.pairs fun x hx => List.mem_cons_of_mem _ (hsub x hx), fun C q g' hq k => ?_, fun C q g' hq _ k => Ev.own1⟩
    obtain ⟨u, _, hu⟩ := Paired.mem_right hps q hq
    rw [IsI.valN hu.2]
    exact Tv.cmp (Ev.mono Ev.own2 fun _ e => e ▸ hu.2) Ev.nat d_eq
  have hlone : AllN (loneOf us) vs2 := AllN.pairs hps hF2 (fun u q hu => by rw [IsI.valN hu.2]) fun u q v hu _ hv => hv ▸ hu.1
  have hlt : ∀ s ∈ loneOf us, s < cs.length := fun s hs => by
    obtain ⟨u, hu, rfl⟩ := List.mem_map.mp hs
    exact (hus u (List.mem_filter.mp hu).1).2.1
  have hll : (loneOf us).length ≤ cs.length := by
    unfold loneOf
    rw [List.length_map]
    exact Nat.le_trans (List.length_filter_le ..) hul
  have hlv := hlone.length
  -- ends
  refine Ex.setComp (n := vs2.length) (P := fun i v => vs2[i]? = some v) (p := fun v => if q = true then decide (cs.getD (valN v) 0 = 34) else decide (cs.getD (valN v) 0 ∈ wh)) (F := fun u v => v = u) (cl := [(PySem.Str.ofString "white", L + 2), (PySem.Str.ofString "quoted", L + 3), (PySem.Str.ofString "codes", L + 1)]) ?_ (by omega) rfl fun D3 us3 vs3 hlen3 hP3 hF3 => ?_
  · refine Tr.mono (Ev.locS up_self) fun xv g r => ?_
    obtain ⟨rx, S⟩ := r
    cases rx
    refine ⟨S, Src.list hh (S.list (i := 0) rfl).isList, fun C i u g' hP k => one_test ?_, fun C i u g hP _ k => Ev.own⟩
    obtain ⟨s, hs, hu⟩ := AllV.at hlone hP
    have hu : IsN s u := hu
    have hsl := hlt s (List.mem_of_getElem? hs)
    rw [IsI.valN hu]
    refine Tv.ife (b := q) (Tv.plain (Ev.cellI (c := L + 3) (fun g' i => S.cellE (n := PySem.Str.ofString "quoted") (v := .bool q) (k.trans i.1) rfl hc3) rfl) tr_bool) (fun e => ?_) (fun e => ?_)
    · rw [if_pos e]
      refine Tv.cmp (Ev.itemN ?_ (Ev.mono Ev.own fun _ e => e ▸ hu) hc (fun g' i => base hpre.1 (S.base.trans (k.trans i.1))) hsl (by omega)) Ev.nat d_eq
      exact Ev.cellI (c := L + 1) (fun g' i => S.cellE (n := PySem.Str.ofString "codes") (v := .ref lc) (k.trans i.1) rfl hc1) rfl
    · rw [if_neg (by rw [e]; decide)]
      refine Tv.cmp (Ev.itemN ?_ (Ev.mono Ev.own fun _ e => e ▸ hu) hc (fun g' i => base hpre.1 (S.base.trans (k.trans i.1))) hsl (by omega)) ?_ (c_inL hw fun g' i => base hpre.2 (S.base.trans (k.trans i.1)))
      · exact Ev.cellI (c := L + 1) (fun g' i => S.cellE (n := PySem.Str.ofString "codes") (v := .ref lc) (k.trans i.1) rfl hc1) rfl
      · exact Ev.cellI (c := L + 2) (fun g' i => S.cellE (n := PySem.Str.ofString "white") (v := .ref lw) (k.trans i.1) rfl hc2) rfl
  have hends : AllN (endsOf cs q wh (loneOf us)) vs3 := by
    rw [paired_eq hF3]
    refine AllN.filter (q := fun s => if q = true then decide (cs.getD s 0 = 34) else decide (cs.getD s 0 ∈ wh)) (AllV.of_get (by rw [hlen3, hlv]) fun j u a x y => ?_)
    obtain ⟨b, hb, hbu⟩ := AllV.at hlone (hP3 j u x)
    rw [y] at hb; cases hb
    exact hbu
  have hel : (endsOf cs q wh (loneOf us)).length ≤ cs.length := Nat.le_trans (List.length_filter_le ..) hll
  have hev := hends.length
  generalize hE : endsOf cs q wh (loneOf us) = ends at hends hel hev
  -- stop
  refine Ex.setC (c := L + 4) (C := fun (_ : Unit) u => IsN (stopOf cs ends) u) (led' := fun _ => _) rfl (Ev.toS (Ev.ife (Tv.plain (Ev.locS up_self) (tr_list (fun g S => (S.list (i := 0) rfl).isList) (by unfold szs; omega))) (fun e => ?_) (fun e => ?_))) fun _ vst hvst => ?_
  · have e := of_decide_eq_true e
    cases ends with
    | nil => exact absurd hends.nil_inv e
    | cons a b => exact Ev.itemN (k := 0) (ns := a :: b) (Ev.locS up_self) Ev.nat hends (fun g S => (S.list (i := 0) rfl).isList) (by simp) (by omega)
  · have e : vs3 = [] := Decidable.of_not_not (of_decide_eq_false e)
    subst e
    have e : ends = [] := by cases ends with | nil => rfl | cons a b => exact hends.elim
    subst e
    exact Ev.callB (Ev.builtin St.okk (g_len w) boot_len (by decide)) (Es.cons (Ev.cellS (c := L + 1) hc1 rfl) Es.nil) (len_okN hc (fun g S => base hpre.1 S.base) (by omega))
  have hc1' : up cm (PySem.Str.ofString "stop") vst (PySem.Str.ofString "codes") = some (.ref lc) := (up_ne (by decide)).trans hc1
  -- word
  refine Ex.setComp2 (ax := lu) (ps := ps) (p := fun q => decide (valN q.x < stopOf cs ends) && (decide (valN q.x + valN q.y ≤ cs.length) && true)) (F := fun q v => IsN (cs.getD (valN q.x + valN q.y - 1) 0) v) (cl := [(PySem.Str.ofString "stop", L + 4), (PySem.Str.ofString "codes", L + 1)]) hh (by omega) ?_ rfl fun D4 vs4 hF4 => ?_
  · refine Tr.mono (Ev.locS ((up_ne (by decide)).trans ((up_ne (by decide)).trans hm2))) fun xv g r => ?_
    obtain ⟨rx, S⟩ := r
    have hW := S.wdh
    refine ⟨rx, S, (S.list (i := 2) rfl).isList, S.pairs fun x hx => List.mem_cons_of_mem _ (List.mem_cons_of_mem _ (List.mem_cons_of_mem _ (hsub x hx))), fun C q' g' hq k => ?_, fun C q' g' hq hp k => ?_⟩
    · obtain ⟨u, _, hu⟩ := Paired.mem_right hps q' hq
      rw [IsI.valN hu.1, IsI.valN hu.2]
      refine Tv.and (Tv.cmp (Ev.mono Ev.own1 fun _ e => e ▸ hu.1) (Ev.mono (V := IsV vst) ?_ fun _ e => e ▸ hvst) d_lt) fun _ => Tv.and (Tv.cmp (Ev.bin (Ev.mono Ev.own1 fun _ e => e ▸ hu.1) (Ev.mono Ev.own2 fun _ e => e ▸ hu.2) n_add) (Ev.callB (Ev.builtin (IC2.okk (hW.ext k)) (g_len w) boot_len (by decide)) (Es.cons ?_ Es.nil) (len_okN hc (fun g' i => base hpre.1 (S.base.trans (k.trans i.1))) (by omega))) d_le) fun _ => Tv.and_nil
      · exact Ev.cellI (c := L + 4) (fun g' i => S.cellE (n := PySem.Str.ofString "stop") (v := vst) (k.trans i.1) rfl up_self) rfl
      · exact Ev.cellI (c := L + 1) (fun g' i => S.cellE (n := PySem.Str.ofString "codes") (v := .ref lc) (k.trans i.1) rfl hc1') rfl
    · obtain ⟨u, hu', hu⟩ := Paired.mem_right hps q' hq
      rw [IsI.valN hu.1, IsI.valN hu.2] at hp ⊢
      have hp2 : u.1 + u.2 ≤ cs.length := by
        rw [Bool.and_true, Bool.and_eq_true] at hp
        exact of_decide_eq_true hp.2
      have hpos := (hus u hu').1
      refine Ev.itemN ?_ (Ev.bin (Ev.bin (Ev.mono Ev.own1 fun _ e => e ▸ hu.1) (Ev.mono Ev.own2 fun _ e => e ▸ hu.2) n_add) Ev.nat (n_sub (by omega))) hc (fun g' i => base hpre.1 (S.base.trans (k.trans i.1))) (by omega) (by omega)
      exact Ev.cellI (c := L + 1) (fun g' i => S.cellE (n := PySem.Str.ofString "codes") (v := .ref lc) (k.trans i.1) rfl hc1') rfl
  have hword : AllN (wordOf cs (stopOf cs ends) us) vs4 := AllN.pairs hps hF4 (fun u q hu => by rw [IsI.valN hu.1, IsI.valN hu.2, Bool.and_true]) fun u q v hu _ hv => by rw [IsI.valN hu.1, IsI.valN hu.2] at hv; exact hv
  have hW : lawWord cs p wh = (wordOf cs (stopOf cs ends) us, min (stopOf cs ends + 1) cs.length) := by
    unfold lawWord
    rw [ehs]
    dsimp only
    rw [hq, hesc, hp1, husq, hE]
  refine Ex.retA (TrS.tuple (EsS.cons (Ev.locS up_self).s fun v led1 hv => EsS.cons (Ev.s (V := IsN (min (stopOf cs ends + 1) cs.length)) ?_) fun v led1 hv => EsS.nil) ?_) ?_
  · obtain ⟨rfl, rfl⟩ := hv
    exact Ev.callB (Ev.builtin St.okk (g_min w) boot_min (by decide)) (Es.cons (Ev.bin (Ev.mono (V := IsV vst) (Ev.cellS (c := L + 4) up_self rfl) fun _ e => e ▸ hvst) Ev.nat n_add) (Es.cons (Ev.callB (Ev.builtin St.okk (g_len w) boot_len (by decide)) (Es.cons (Ev.cellS (c := L + 1) hc1' rfl) Es.nil) (len_okN hc (fun g S => base hpre.1 S.base) (by omega))) Es.nil)) (min_okN St.okk hh)
  · rintro vs led' ⟨v, us, led1, rfl, _, u, us', led2, rfl, _, rfl, _⟩
    exact Nat.le_of_ble_eq_true rfl
  · rintro v g ⟨led', ⟨us5, t, led1, ⟨v1, us1, led2, rfl, ⟨rfl, rfl⟩, v2, us2, led3, rfl, ⟨hv2, rfl⟩, rfl, rfl⟩, rfl, rfl⟩, S⟩
    refine ⟨.ref t, .inl rfl, [(t, TT [.ref D4, v2]), (D4, PL vs4)], ⟨t, D4, vs4, v2, rfl, rfl, ?_, ?_⟩, AlL.left (a := [(t, TT [.ref D4, v2]), (D4, PL vs4)]) (S.rets hB)⟩
    · rw [hW]; exact hword
    · rw [hW]; exact hv2
end
end Mine

open PySem PySem.W PyProof.Rows
set_option maxRecDepth 100000
namespace Mine
open PySem PySem.W PySem.Calls PyProof.Rows

/-- a name table -/
def NsM (m : Str → Option Value) (o : Obj) : Prop := ∃ es ep, o.data = .dict es ep ∧ StrKeys es ∧ ∀ name, nsFind es name = m name
def NsA (o : Obj) : Prop := ∃ m, NsM m o
def NsO (x : Str) (v : Value) (o : Obj) : Prop := ∃ m, NsM m o ∧ m x = some v
theorem NsM.ns {h : Heap} {a : Addr} {o : Obj} {m : Str → Option Value} (e : h.get? a = some o) (x : NsM m o) : h.Ns a m := let ⟨es, ep, r⟩ := x; ⟨o, es, ep, e, r⟩
theorem Ns.obj {h : Heap} {a : Addr} {m : Str → Option Value} (x : h.Ns a m) : ∃ o, h.get? a = some o ∧ NsM m o := let ⟨o, es, ep, e, r⟩ := x; ⟨o, e, es, ep, r⟩

section
variable {K : Frag} {h₀ : Heap} {L : Addr} {cs : List (Str × Addr)} {m cm : Str → Option Value} {led : Ledger}
/-- another statement of the entry at place i, true of the object there -/
theorem St.re {h : Heap} {i : Nat} {a : Addr} {P P' : Obj → Prop} {o : Obj} (S : St K h₀ L cs m cm led h) (hi : led[i]? = some (a, P)) (ho : h.get? a = some o) (hP : P' o) : St K h₀ L cs m cm (led.set i (a, P')) h :=
  S.put hi ⟨rfl, fun _ _ => rfl⟩ ho hP
theorem St.ne {h : Heap} {i j : Nat} {a b : Addr} {P Q : Obj → Prop} (S : St K h₀ L cs m cm led h) (hi : led[i]? = some (a, P)) (hj : led[j]? = some (b, Q)) (hij : i ≠ j) : a ≠ b := fun e => by
  have hi' : (ads led)[i]? = some a := by unfold ads; rw [List.getElem?_map, hi]; rfl
  have hj' : (ads led)[j]? = some a := by unfold ads; rw [List.getElem?_map, hj, e]; rfl
  refine hij ((List.getElem?_inj ?_ S.nd).mp (hi'.trans hj'.symm))
  rcases Nat.lt_or_ge i (ads led).length with q | q
  · exact q
  · rw [List.getElem?_eq_none q] at hi'; cases hi'
theorem St.notIn {h : Heap} {p : Addr × (Obj → Prop)} (S : St K h₀ L cs m cm (p :: led) h) : ∀ q ∈ led, p.1 ≠ q.1 := fun q hq e =>
  (List.nodup_cons.mp S.nd).1 (List.mem_map.mpr ⟨q, hq, e.symm⟩)
end

/-- what the loop of a comprehension whose elements may do things keeps -/
structure EL (K : Frag) (h₀ : Heap) (L : Addr) (cs : List (Str × Addr)) (m cm : Str → Option Value) (C D It : Addr) (n : Nat) (T : Nat → Heap → Prop) (R : Nat → List Value → Ledger → Prop) (PC : Obj → Prop) (i : Nat) (h : Heap) (ys : List Value) (led : Ledger) (oI : Obj) : Prop where
  le : i ≤ n
  r : R i ys led
  t : T i h
  len : ys.length = i
  st : St K h₀ L cs m cm ((C, PC) :: (D, PL ys) :: (It, fun o => o = oI) :: led) h
section
variable {prog : Program} {w : World} {K : Frag} {A : Around} {h₀ : Heap} {L : Addr} {cs : List (Str × Addr)} {m cm : Str → Option Value}
theorem EL.keepT {C D It : Addr} {n : Nat} {T : Nat → Heap → Prop} {P : Nat → Value → Prop} {fp : List Addr} {fx : List (Addr × Obj)} {PC PC' : Obj → Prop} {j : Nat} {h h' : Heap} {ys ys' : List Value} {led led' : Ledger} {oI : Obj} {m' cm' m'' cm'' : Str → Option Value}
    (W : Walks prog w A It fp [It] n P T) (hfp : ∀ b ∈ fp, b = It ∨ ∃ p ∈ fx, p.1 = b) (hf : ∀ p ∈ fx, (p.1, fun o => o = p.2) ∈ led) (hf' : ∀ p ∈ fx, (p.1, fun o => o = p.2) ∈ led')
    (t : T j h) (S : St K h₀ L cs m' cm' ((C, PC) :: (D, PL ys) :: (It, fun o => o = oI) :: led) h) (S' : St K h₀ L cs m'' cm'' ((C, PC') :: (D, PL ys') :: (It, fun o => o = oI) :: led') h') : T j h' := by
  refine W.frame j h h' t fun b hb o e => ?_
  rcases hfp b hb with rfl | ⟨p, hp, rfl⟩
  · obtain ⟨o1, g1, e1⟩ := S.has (i := 2) rfl
    obtain ⟨o2, g2, e2⟩ := S'.has (i := 2) rfl
    rw [e] at g1; cases g1
    rw [g2, e2, e1]
  · obtain ⟨⟨o1, g1, e1⟩, _⟩ := S.ld _ (List.mem_cons_of_mem _ (List.mem_cons_of_mem _ (List.mem_cons_of_mem _ (hf p hp))))
    obtain ⟨⟨o2, g2, e2⟩, _⟩ := S'.ld _ (List.mem_cons_of_mem _ (List.mem_cons_of_mem _ (List.mem_cons_of_mem _ (hf' p hp))))
    rw [e] at g1; cases g1
    exact g2.trans (congrArg some (Eq.trans e2 (Eq.symm e1)))
theorem eff_loop {elt iter : Expr} {x : Str} {px : Pos} {scope : Scope} {pos : Pos} {It D C : Addr} {n : Nat} {P : Nat → Value → Prop} {T : Nat → Heap → Prop} {cenv : Env} {fp : List Addr} {fx : List (Addr × Obj)} {R : Nat → List Value → Ledger → Prop} {s : Shared} {RR : Result → Shared → Prop} {led : Ledger} {oI : Obj}
    (W : Walks prog w A It fp [It] n P T) (hfp : ∀ b ∈ fp, b = It ∨ ∃ p ∈ fx, p.1 = b) (hT : ∀ i h, T i h → ∃ o, h.get? It = some o) (hC : cenv.locals = C)
    (hx : cenv.kindOf x = some .local) (hp : (cenv.scope.kind == .class || (cenv.scope.kind == .module && cenv.locals != cenv.globals)) = false)
    (hfx : ∀ i ys led, R i ys led → ∀ p ∈ fx, (p.1, fun o => o = p.2) ∈ led) (hz : n ≤ 1000000)
    (h0 : EL K h₀ L cs m cm C D It n T R NsA 0 s.heap [] led oI)
    (step : ∀ i u ys led oI, P i u → i < n → R i ys led → Tr (model prog w) A (St K h₀ L cs m cm ((C, NsO x u) :: (D, PL ys) :: (It, fun o => o = oI) :: led)) (eval elt cenv) fun v h' => ∃ led', R (i + 1) (ys ++ [v]) led' ∧ St K h₀ L cs m cm ((C, NsO x u) :: (D, PL ys) :: (It, fun o => o = oI) :: led') h')
    (hR : ∀ h' tk ys led, R n ys led → St K h₀ L cs m cm ((C, NsA) :: (D, PL ys) :: led) h' → RR (.ok .next) { s with heap := h', toks := tk }) :
    codeAny (model prog w) A (.compLoop (.ListComp elt [⟨.Name x px, iter, [], 0⟩] scope pos) 0 (.ref It) (.ref D) cenv) RR s := by
  subst hC
  refine codeAny_compLoop_list (fun k s' => ∃ i h tk ys led oI, s' = { s with heap := h, toks := tk } ∧ k = n + 1 - i ∧ EL K h₀ L cs m cm cenv.locals D It n T R NsA i h ys led oI) ?_ (n + 1) ⟨0, s.heap, s.toks, [], led, oI, rfl, rfl, h0⟩
  rintro k s' ⟨i, h, tk, ys, led, oI, rfl, rfl, H⟩
  rcases Nat.lt_or_ge i n with hi | hi
  · refine W.item i _ _ _ hi H.t fun u h1 tk1 hPu t1 k1 => ?_
    obtain ⟨o1, ho1⟩ := hT _ _ t1
    have kx : ExtB [It] h h1 := fun b o hb e => k1 b o hb e
    have S1 : St K h₀ L cs m cm ((cenv.locals, NsA) :: (D, PL ys) :: (It, fun o => o = o1) :: led) h1 := by
      have nI : ∀ q ∈ ((cenv.locals, NsA) :: (D, PL ys) :: led : Ledger), q.1 ≠ It := fun q hq => by
        obtain ⟨j, hj, hq'⟩ := List.getElem_of_mem hq
        have hIt : ((cenv.locals, NsA) :: (D, PL ys) :: (It, fun o => o = oI) :: led : Ledger)[2]? = some (It, fun o => o = oI) := rfl
        match j, hj, hq' with
        | 0, _, e => exact e ▸ H.st.ne (i := 0) rfl hIt (by decide)
        | 1, _, e => exact e ▸ H.st.ne (i := 1) rfl hIt (by decide)
        | j + 2, hj, e => exact H.st.ne (i := j + 3) (j := 2) (a := q.1) (P := q.2) (by rw [← e]; exact List.getElem?_eq_getElem (by simpa using hj)) hIt (by omega)
      refine H.st.extB kx (fun a ha => by rw [List.mem_singleton.mp ha]; simp [ads]) (fun q hq => ?_) (by have := H.st.nd; simpa [ads] using this)
      have hold : q.1 ≠ It → q ∈ ((cenv.locals, NsA) :: (D, PL ys) :: (It, fun o => o = oI) :: led : Ledger) → q.1 ∈ ads ((cenv.locals, NsA) :: (D, PL ys) :: (It, fun o => o = oI) :: led) ∧ ∃ o, h1.get? q.1 = some o ∧ q.2 o := fun hne hm => by
        obtain ⟨⟨o, ho, hq⟩, _⟩ := H.st.ld q hm
        exact ⟨List.mem_map.mpr ⟨q, hm, rfl⟩, o, kx _ _ (by simpa using hne) ho, hq⟩
      rcases List.mem_cons.mp hq with rfl | hq
      · exact hold (nI _ (by simp)) (by simp)
      rcases List.mem_cons.mp hq with rfl | hq
      · exact hold (nI _ (by simp)) (by simp)
      rcases List.mem_cons.mp hq with rfl | hq
      · exact ⟨by simp [ads], o1, ho1, rfl⟩
      · exact hold (nI _ (by simp [hq])) (by simp [hq])
    obtain ⟨oC, hoC, mC, hmC⟩ := S1.has (i := 0) rfl
    refine wpAny_assign_Name (wpAny_storeName_local hx (NsM.ns hoC hmC) (fun h2 hn2 hs2 => ?_) hp)
    obtain ⟨o2, ho2, hm2⟩ := Ns.obj hn2
    have S2 := S1.put (i := 0) (P' := NsO x u) rfl hs2 ho2 ⟨_, hm2, by simp⟩
    have t2 := EL.keepT W hfp (hfx _ _ _ H.r) (hfx _ _ _ H.r) t1 S1 S2
    refine (step i u ys led o1 hPu hi H.r h2 S2).bindK rfl fun v h3 tk3 r3 => ?_
    obtain ⟨led', hR', S3⟩ := r3
    have t3 := EL.keepT W hfp (hfx _ _ _ H.r) (hfx _ _ _ hR') t2 S2 S3
    obtain ⟨oD, hoD, nD, rfl⟩ := S3.has (i := 1) rfl
    refine wpAny_list_append_plain (items := ys.toArray) (hsz := by rw [List.size_toArray, H.len]; unfold sizeLine; omega) ⟨nD, hoD⟩ fun h4 hl4 hs4 => ?_
    obtain ⟨n4, hl4⟩ := hl4
    have S4 := S3.put (i := 1) (P' := PL (ys ++ [v])) rfl hs4 hl4 ⟨n4, by simp⟩
    have t4 := EL.keepT W hfp (hfx _ _ _ hR') (hfx _ _ _ hR') t3 S3 S4
    have S5 := S4.sub (led' := (cenv.locals, NsA) :: (D, PL (ys ++ [v])) :: (It, fun o => o = o1) :: led') (fun q hq => by
      rcases List.mem_cons.mp hq with rfl | hq
      · exact ⟨_, List.mem_cons_self .., rfl, fun o ⟨m, e, _⟩ => ⟨m, e⟩⟩
      · exact ⟨q, List.mem_cons_of_mem _ hq, rfl, fun _ e => e⟩) S4.nd
    exact ⟨n + 1 - (i + 1), by omega, i + 1, h4, tk3, ys ++ [v], led', o1, rfl, rfl, hi, hR', t4, by simp [H.len], S5⟩
  · have e : i = n := Nat.le_antisymm H.le hi
    have ht := H.t
    have hr := H.r
    rw [e] at ht hr
    refine W.done _ _ _ ht fun h1 tk1 k1 => ?_
    refine hR h1 tk1 ys led hr (H.st.extB (as := [It]) (fun b o hb e => k1 b o hb e) (fun a ha => by rw [List.mem_singleton.mp ha]; simp [ads]) (fun q hq => ?_) ?_)
    · have hq' : q ∈ ((cenv.locals, NsA) :: (D, PL ys) :: (It, fun o => o = oI) :: led : Ledger) := by
        rcases List.mem_cons.mp hq with rfl | hq
        · simp
        · rcases List.mem_cons.mp hq with rfl | hq
          · simp
          · simp [hq]
      obtain ⟨⟨o, ho, hq2⟩, _⟩ := H.st.ld q hq'
      refine ⟨List.mem_map.mpr ⟨q, hq', rfl⟩, o, k1 _ _ (fun z => ?_) ho, hq2⟩
      have z := List.mem_singleton.mp z
      have nd := H.st.nd
      simp only [ads, List.map_cons, List.nodup_cons, List.mem_cons, not_or] at nd
      rcases List.mem_cons.mp hq with rfl | hq
      · exact nd.1.2.1 z
      · rcases List.mem_cons.mp hq with rfl | hq
        · exact nd.2.1.1 z
        · exact nd.2.2.1 (z ▸ List.mem_map.mpr ⟨q, hq, rfl⟩)
    · have nd := H.st.nd
      simp only [ads, List.map_cons, List.nodup_cons, List.mem_cons, not_or] at nd ⊢
      exact ⟨⟨nd.1.1, nd.1.2.2⟩, nd.2.1.2, nd.2.2.2⟩
end
end Mine

open PySem PySem.W PyProof.Rows
set_option maxRecDepth 100000
namespace Mine
open PySem PySem.W PySem.Calls PyProof.Rows
/-- a source whose iterator leans on these objects alone -/
def Src1 (prog : Program) (w : World) (A : Around) (xv : Value) (h₁ : Heap) (n : Nat) (P : Nat → Value → Prop) (fx : List (Addr × Obj)) : Prop :=
  ∀ (s : Shared) (Q : Value → Shared → Prop) (E : Value → Shared → Prop), s.heap = h₁ →
    (∀ (It : Addr) (T : Nat → Heap → Prop) (h' : Heap) (k : Nat) (fp : List Addr), Ext h₁ h' → h₁.get? It = none → Walks prog w A It fp [It] n P T → (∀ b ∈ fp, b = It ∨ ∃ p ∈ fx, p.1 = b) → (∀ i h, T i h → ∃ o, h.get? It = some o) → T 0 h' → Q (.ref It) { s with heap := h', toks := k }) →
    wpAny (model prog w) A (pyIter xv) Q E s
section
variable {prog : Program} {w : World} {K : Frag} {A : Around} {I : Heap → Prop} {env : Env}
theorem Src1.list {h₁ : Heap} {l : Addr} {o : Obj} {vs : List Value} (hh : A.handled = none) (hl : h₁.IsList l vs.toArray) : Src1 prog w A (.ref l) h₁ vs.length (fun i v => vs[i]? = some v) [(l, o)] := fun s Q E hs q => by
  subst hs
  have ne : l ≠ s.heap.objs.size := by
    obtain ⟨o, ho, _⟩ := hl
    exact Nat.ne_of_lt (Heap.lt_size ho)
  have W := Walks.list (prog := prog) (w := w) hh s.heap.objs.size l ne vs.toArray
  have e : (fun (i : Nat) (v : Value) => vs.toArray[i]? = some v) = fun i v => vs[i]? = some v := by funext i v; simp
  rw [e, List.size_toArray] at W
  refine wpAny_pyIter_list hl (q _ _ _ s.toks _ (push_ext _ _) (push_none _) W (fun b hb => ?_) (fun i h t => ?_) ⟨⟨_, Heap.get?_push_size _ rfl, rfl, rfl⟩, ?_⟩)
  · rcases List.mem_cons.mp hb with rfl | hb
    · exact .inl rfl
    · exact .inr ⟨(l, o), by simp, (List.mem_singleton.mp hb).symm⟩
  · obtain ⟨o, ho, _⟩ := t.1
    exact ⟨o, ho⟩
  · obtain ⟨o, ho, r⟩ := hl
    exact ⟨o, Heap.get?_push_of_some _ ho, r⟩
theorem Src1.range {h₁ : Heap} {r : Addr} {b : Int} {n : Nat} (hh : A.handled = none) (hr : RangeAt h₁ r 0 b) (hb0 : 0 ≤ b) (hb : b < 2 ^ 40) (hn : b.toNat = n) :
    Src1 prog w A (.ref r) h₁ n (fun (i : Nat) v => IsI ((0 : Int) + (i : Int)) v) [] := fun s Q E hs q => by
  subst hs
  obtain ⟨t, u, v, hr⟩ := hr
  have hsz : Builtin.Range.rangeSize 0 b 1 = (n : Int) := by
    unfold Builtin.Range.rangeSize
    rw [if_pos (by decide)]
    split
    · rw [Int.ediv_one]; omega
    · omega
  have W := Walks.range (prog := prog) (w := w) hh s.heap.objs.size 0 1 n
  have e : (fun (i : Nat) (v : Value) => ∃ t, v = .int (0 + i * 1) t) = fun (i : Nat) (v : Value) => IsI ((0 : Int) + (i : Int)) v := by funext i v; unfold IsI; simp
  rw [e] at W
  refine wpAny_pyIter_range hr ?_ (q _ _ _ s.toks _ (push_ext _ _) (push_none _) W (fun b hb => .inl (List.mem_singleton.mp hb)) (fun i h t => ?_) ?_)
  · exact small_one (by omega) (by omega) (by omega) (by omega)
  · exact ⟨_, t⟩
  · show Heap.get? _ _ = _
    rw [Heap.get?_push_size _ rfl, hsz]
    simp
end
section
variable {prog : Program} {w : World} {K : Frag} {A : Around} {env : Env} {h₀ : Heap} {L : Addr} {cs : List (Str × Addr)} {m cm : Str → Option Value} {led : Ledger}
/-- what is to be shown of a comprehension whose elements act, once its source xv stands -/
structure EffK (prog : Program) (w : World) (K : Frag) (A : Around) (h₀ : Heap) (L : Addr) (cs : List (Str × Addr)) (m cm : Str → Option Value) (env : Env) (elt : Expr) (scope : Scope) (cl : List (Str × Addr)) (x : Str) (Q : Value → Ledger → Prop) (xv : Value) (led1 : Ledger)
    (n : Nat) (P : Nat → Value → Prop) (fx : List (Addr × Obj)) (R : Nat → List Value → Ledger → Prop) : Prop where
  z : n ≤ 1000000
  r : R 0 [] led1
  src : ∀ h₁, St K h₀ L cs m cm led1 h₁ → Src1 prog w A xv h₁ n P fx
  fx : ∀ i ys led, R i ys led → ∀ p ∈ fx, (p.1, fun o => o = p.2) ∈ led
  step : ∀ C D It i u ys led oI, P i u → i < n → R i ys led → TrS (model prog w) A K h₀ L cs m cm ((C, NsO x u) :: (D, PL ys) :: (It, fun o => o = oI) :: led) (eval elt (compEnvC scope cl C env)) fun v led' => ∃ led1, led' = (C, NsO x u) :: (D, PL ys) :: (It, fun o => o = oI) :: led1 ∧ R (i + 1) (ys ++ [v]) led1
  k : ∀ D ys led', R n ys led' → Q (.ref D) ((D, PL ys) :: led')
/-- a comprehension without tests whose elements may make and change objects -/
theorem W.eff {elt iter : Expr} {x : Str} {px : Pos} {scope : Scope} {cl : List (Str × Addr)} {pos : Pos} {G : Value → Ledger → Prop}
    (hclos : closureFor scope env = pure cl)
    (hsrc : TrS (model prog w) A K h₀ L cs m cm led (eval iter env) fun xv led1 => ∃ n P fx R, EffK prog w K A h₀ L cs m cm env elt scope cl x G xv led1 n P fx R)
    (hs : ∀ x, foldedSetIterable iter env x = pure x := by intro _; rfl) (hcell : ∀ y ∈ scope.names, y.2 ≠ .cell := by decide) (hkind : scope.kind = .function := by rfl)
    (hnames : ∀ y ∈ scope.names, y.2 = .local → scope.names.lookup y.1 = some .local := by decide) (hx : scope.names.lookup x = some .local := by rfl) :
    TrS (model prog w) A K h₀ L cs m cm led (eval (.ListComp elt [⟨.Name x px, iter, [], 0⟩] scope pos) env) G := fun h hI => Run.mk fun s Q E hs' q => by
  rw [eval_ListComp]
  refine wpAny_comprehension_free (use := none) rfl hs hclos hkind hnames ((hsrc h hI).bindK hs' fun xv h₁ k₁ r => ?_)
  obtain ⟨led1, ⟨n, P, fx, R, H⟩, S⟩ := r
  refine H.src _ S _ _ _ rfl fun It T h2 k2 fp x2 nI W hfp hT t0 => ?_
  obtain ⟨oI, hoI⟩ := hT _ _ t0
  have S2 := S.add (P := fun o => o = oI) x2 nI hoI rfl
  refine wpAny_newObj_type (wpAny_newFunctionEnv hcell (by intro y hy; simp at hy) (fun g hns hsb => ?_) hkind)
  dsimp only at hns hsb ⊢
  generalize hH2 : h2.push { cls := .type "list", dict := none, data := .seq ([] : List Value).toArray } = H2 at hns hsb ⊢
  have S3 := S2.add (l := h2.objs.size) (P := PL []) (h' := H2) (hH2 ▸ push_ext _ _) (push_none _) (hH2 ▸ Heap.get?_push_size _ rfl) ⟨0, rfl⟩
  have x3 : Ext h2 g := fun c o e => hsb.extBut c o (Nat.ne_of_lt (by rw [← hH2, Heap.size_push]; exact Nat.lt_succ_of_lt (Heap.lt_size e))) (Heap.get?_push_of_some _ (hH2 ▸ Heap.get?_push_of_some _ e))
  have x4 : Ext H2 g := fun c o e => hsb.extBut c o (Nat.ne_of_lt (Heap.lt_size e)) (Heap.get?_push_of_some _ e)
  obtain ⟨oC, hoC, hmC⟩ := Ns.obj hns
  have S4 := S3.add (l := H2.objs.size) (P := NsA) x4 (push_none _) hoC ⟨_, hmC⟩
  have loop : ∀ s₃ : Shared, s₃ = { s with heap := g, toks := k2 + ([] : List (Str × Value)).length } →
      codeAny (model prog w) A (.compLoop (.ListComp elt [⟨.Name x px, iter, [], 0⟩] scope pos) 0 (.ref It) (.ref h2.objs.size) (compEnvC scope cl H2.objs.size env)) (compPost (model prog w) A E none Q (.ref h2.objs.size) H2.objs.size) s₃ := by
    rintro s₃ rfl
    refine eff_loop (cenv := compEnvC scope cl H2.objs.size env) (C := H2.objs.size) W hfp hT rfl (lookup_relabel_local hx) (by simp [compEnvC, relabel, hkind]) H.fx H.z ⟨Nat.zero_le _, H.r, W.frame _ _ _ t0 fun b _ o e => x3 b o e, rfl, S4⟩ (fun i u ys led oI hP hi hR => Tr.mono (H.step _ _ _ i u ys led oI hP hi hR) fun _ _ ⟨_, ⟨l, e, r⟩, S⟩ => ⟨l, r, e ▸ S⟩) fun h' tk ys led' hR S' => ?_
    obtain ⟨oC, hoC, mC, hmC⟩ := S'.has (i := 0) rfl
    refine ⟨mC, NsM.ns hoC hmC, fun h5 hs5 => q _ h5 tk ⟨_, H.k _ _ _ hR, S'.extB (as := [H2.objs.size]) (fun b o hb e => hs5.extBut b o (by simpa using hb) e) (fun a ha => by rw [List.mem_singleton.mp ha]; simp [ads]) (fun p hp => ?_) (List.nodup_cons.mp S'.nd).2⟩⟩
    obtain ⟨⟨o, ho, hq⟩, _⟩ := S'.ld p (List.mem_cons_of_mem _ hp)
    exact ⟨List.mem_map.mpr ⟨p, List.mem_cons_of_mem _ hp, rfl⟩, o, hs5.extBut _ _ (Ne.symm (S'.notIn p hp)) ho, hq⟩
  exact codeAny_compStart_list (loop _ rfl) (W.self 0 _ _ _ (W.frame _ _ _ t0 fun b _ o e => x3 b o e) (loop _ rfl))
/-- the variable of such a comprehension -/
theorem Ev.ownS {x : Str} {u : Value} {C : Addr} {pos : Pos} (hL : env.locals = C := by rfl) (hk : env.scope.kind = .function := by rfl) (hl : env.kindOf x = some .local := by rfl) (hd : (x == ("__debug__" : Str)) = false := by decide) :
    Ev (model prog w) A (St K h₀ L cs m cm ((C, NsO x u) :: led)) env (.Name x pos) (IsV u) := Ev.local (fun _ S => let ⟨_, ho, m, hm, hu⟩ := S.has (i := 0) rfl; ⟨m, u, hL ▸ NsM.ns ho hm, hu, rfl⟩) hk hl hd
end
end Mine

open PySem PySem.W PyProof.Rows
set_option maxRecDepth 100000
namespace Mine
open PySem PySem.W PySem.Calls PyProof.Rows
/-! rules that hand on: the post of a term is what the rest asks -/
section
variable {prog : Program} {w : World} {K : Frag} {A : Around} {env : Env} {h₀ : Heap} {L : Addr} {cs : List (Str × Addr)} {m cm : Str → Option Value} {led : Ledger} {C : Value → Ledger → Prop}
theorem W.ev {e : Expr} {V : Value → Prop} (x : Ev (model prog w) A (St K h₀ L cs m cm led) env e V) (k : ∀ v, V v → C v led) : TrS (model prog w) A K h₀ L cs m cm led (eval e env) C := Tr.mono x fun v _ r => ⟨led, k v r.1, r.2⟩
theorem W.al {t : Sem Value} {P : Obj → Prop} (x : Tr (model prog w) A (St K h₀ L cs m cm led) t fun v h' => ∃ h1, St K h₀ L cs m cm led h1 ∧ Al (fun g => g = h1) P v h') (k : ∀ l, C (.ref l) ((l, P) :: led)) : TrS (model prog w) A K h₀ L cs m cm led t C :=
  Tr.mono x fun v _ r => let ⟨l, e, S⟩ := (Al.of r).st; ⟨_, e ▸ k l, S⟩
theorem W.als {t : Sem Value} {Q : Value → Ledger → Prop} (x : Tr (model prog w) A (St K h₀ L cs m cm led) t fun v h' => ∃ h1, St K h₀ L cs m cm led h1 ∧ ∃ news, Q v news ∧ AlL (fun g => g = h1) news h') (k : ∀ v news, Q v news → C v (news ++ led)) : TrS (model prog w) A K h₀ L cs m cm led t C :=
  Tr.mono x fun v _ ⟨h1, S, news, hq, a⟩ => ⟨_, k v news hq, (AlL.of ⟨h1, S, a⟩).st⟩
theorem Es.done {R : List Value → Ledger → Prop} (k : R [] led) : EsS (model prog w) A K h₀ L cs m cm led env [] R := EsT.mono EsT.nil fun _ _ r => ⟨led, r.1 ▸ k, r.2⟩
theorem Es.one {e : Expr} {rest : List Expr} {R : List Value → Ledger → Prop} (x : TrS (model prog w) A K h₀ L cs m cm led (eval e env) fun v led1 => EsS (model prog w) A K h₀ L cs m cm led1 env rest fun us => R (v :: us))
    (he : starEach (e :: rest) env = (false, eval e env) :: starEach rest env := by rfl) : EsS (model prog w) A K h₀ L cs m cm led env (e :: rest) R :=
  EsT.mono (EsT.cons (he := he) (R := fun v us h => ∃ led', R (v :: us) led' ∧ St K h₀ L cs m cm led' h) x fun v pos => Tr.exs fun led1 => Tr.pull fun hC => hC pos) fun _ _ ⟨_, _, e, r⟩ => e ▸ r
theorem W.tuple {elts : List Expr} {k : Nat} {pos : Pos} (y : EsS (model prog w) A K h₀ L cs m cm led env elts fun vs led1 => vs.length ≤ 100 ∧ ∀ t, C (.ref t) ((t, TT vs) :: led1)) : TrS (model prog w) A K h₀ L cs m cm led (eval (.Tuple elts k pos) env) C :=
  TrS.mono (TrS.tuple y fun _ _ r => r.1) fun _ _ ⟨_, _, _, r, e, e'⟩ => e ▸ e' ▸ r.2 _
theorem W.list {elts : List Expr} {pos : Pos} {Vs : List (Value → Prop)} (y : Es (model prog w) A (St K h₀ L cs m cm led) env elts Vs) (hz : szs Vs.length) (k : ∀ l vs, AllV Vs vs → C (.ref l) ((l, PL vs) :: led)) : TrS (model prog w) A K h₀ L cs m cm led (eval (.List elts pos) env) C :=
  Tr.mono (Tr.list y hz) fun _ _ ⟨vs, h, a⟩ => let ⟨l, e, S⟩ := a.st; ⟨_, e ▸ k l vs h, S⟩
theorem W.ife {t e e' : Expr} {pos : Pos} {b : Bool} (x : Tv (model prog w) A (St K h₀ L cs m cm led) env t b) (y : b = true → TrS (model prog w) A K h₀ L cs m cm led (eval e env) C) (z : b = false → TrS (model prog w) A K h₀ L cs m cm led (eval e' env) C) :
    TrS (model prog w) A K h₀ L cs m cm led (eval (.IfExp t e e' pos) env) C := Tr.ife x y z
theorem W.drop {t : Sem Value} {p : Addr × (Obj → Prop)} (x : TrS (model prog w) A K h₀ L cs m cm led t C) : TrS (model prog w) A K h₀ L cs m cm (p :: led) t C := Tr.pre x fun _ S => S.drop1
theorem Ex.dropW {p : Addr × (Obj → Prop)} {ss : List Stmt} {F : Flow → Heap → Prop} (x : Ex (model prog w) A (St K h₀ L cs m cm led) env ss F) : Ex (model prog w) A (St K h₀ L cs m cm (p :: led)) env ss F := Tr.pre x fun _ S => S.drop1
theorem Ex.setW {x : Str} {e : Expr} {p pos : Pos} {rest : List Stmt} {F : Flow → Heap → Prop} (hx : TrS (model prog w) A K h₀ L cs m cm led (eval e env) fun v led' => Ex (model prog w) A (St K h₀ L cs (up m x v) cm led') env rest F)
    (hs : swapsWith e (some (.Name x p)) pos.line env = pure false := by rfl) (hL : env.locals = L := by rfl) (hk : env.scope.kind = .function := by rfl) (hl : env.kindOf x = some .local := by rfl) :
    Ex (model prog w) A (St K h₀ L cs m cm led) env (.Assign [.Name x p] e pos :: rest) F :=
  Ex.setS (α := Ledger) (C := fun led' v => Ex (model prog w) A (St K h₀ L cs (up m x v) cm led') env rest F) (led' := fun y => y) hx (fun _ _ h => h) hs hL hk hl
theorem Ex.setCW {x : Str} {c : Addr} {e : Expr} {p pos : Pos} {rest : List Stmt} {F : Flow → Heap → Prop} (hc : cs.lookup x = some c) (hx : TrS (model prog w) A K h₀ L cs m cm led (eval e env) fun v led' => Ex (model prog w) A (St K h₀ L cs m (up cm x v) led') env rest F)
    (hs : swapsWith e (some (.Name x p)) pos.line env = pure false := by rfl) (hL : env.cells = cs := by rfl) (hk : env.scope.kind = .function := by rfl) (hl : env.kindOf x = some .cell := by rfl) :
    Ex (model prog w) A (St K h₀ L cs m cm led) env (.Assign [.Name x p] e pos :: rest) F :=
  Ex.setC (α := Ledger) (C := fun led' v => Ex (model prog w) A (St K h₀ L cs m (up cm x v) led') env rest F) (led' := fun y => y) hc hx (fun _ _ h => h) hs hL hk hl
theorem Ex.setsW {elts : List Expr} {names : List Str} {k k' : Nat} {tpos vpos : Pos} {es : List Expr} {pos : Pos} {rest : List Stmt} {F : Flow → Heap → Prop} (hh : A.handled = none)
    (hx : EsS (model prog w) A K h₀ L cs m cm led env es fun vs led' => vs.length = names.length ∧ Ex (model prog w) A (St K h₀ L cs (stL env names.reverse vs.reverse m) (stC env names.reverse vs.reverse cm) led') env rest F)
    (hn : names.length ≤ 100 := by decide) (hok : names.all (stOk env cs) = true := by rfl) (hL : env.locals = L := by rfl) (hC : env.cells = cs := by rfl) (hk : env.scope.kind = .function := by rfl)
    (hs : swapsWithSole [.Tuple elts k tpos] (.Tuple es k' vpos) pos.line env = pure false := by rfl)
    (hw : swappedStores [.Tuple elts k tpos] (.Tuple es k' vpos) env = pure (some names) := by rfl) :
    Ex (model prog w) A (St K h₀ L cs m cm led) env (.Assign [.Tuple elts k tpos] (.Tuple es k' vpos) pos :: rest) F :=
  Ex.sets hh hx (fun _ _ r => r.1) (fun _ _ r => r.2) hn hok hL hC hk hs hw
theorem Ex.retW {e : Expr} {pos : Pos} {rest : List Stmt} {F : Flow → Heap → Prop} (x : TrS (model prog w) A K h₀ L cs m cm led (eval e env) fun v led' => ∀ h', St K h₀ L cs m cm led' h' → F (.ret v) h') : Ex (model prog w) A (St K h₀ L cs m cm led) env (.Return (some e) pos :: rest) F :=
  Ex.retA x fun _ _ ⟨_, k, S⟩ => k _ S
theorem Ex.appendW {o e : Expr} {apos pos spos : Pos} {rest : List Stmt} {l : Addr} {vs : List Value} {G : Flow → Heap → Prop} (i j : Nat) (ho : Ev (model prog w) A (St K h₀ L cs m cm led) env o (IsR l)) (hi : led[i]? = some (l, PL vs)) (hz : szs vs.length)
    (hx : TrS (model prog w) A K h₀ L cs m cm led (eval e env) fun v led1 => led1[j]? = some (l, PL vs) ∧ Ex (model prog w) A (St K h₀ L cs m cm (led1.set j (l, PL (vs ++ [v])))) env rest G)
    (he : eval (.Call (.Attribute o "append" apos) [e] [] pos) env = (do
      let ov ← eval o env
      standAt apos.atName
      let (f, first) ← holding [ov] (getMethod ov "append" (do return (← importBound o env).getD true))
      callWith pos f first (backTo pos (starEach [e] env)) []) := by rfl) (he2 : starEach [e] env = (false, eval e env) :: starEach [] env := by rfl)
    (hi' : interactive env = false := by rfl) (hs : swapsWith (.Call (.Attribute o "append" apos) [e] [] pos) none spos.line env = pure false := by rfl) :
    Ex (model prog w) A (St K h₀ L cs m cm led) env (.Expr (.Call (.Attribute o "append" apos) [e] [] pos) spos :: rest) G :=
  Ex.appendS i j ho hi hz hx (fun _ _ r => r.1) (fun _ _ r => r.2) he he2 hi' hs
/-- a call of a method of a list -/
theorem W.lmeth1 {o e : Expr} {name : Str} {apos pos : Pos} {l : Addr} {vs : List Value} {id : String} (i : Nat) (ho : Ev (model prog w) A (St K h₀ L cs m cm led) env o (IsR l)) (hi : led[i]? = some (l, PL vs)) (slot : Slot "list" name id) (hty : typeOf (.builtin id) = pure (.type "method_descriptor"))
    (hx : TrS (model prog w) A K h₀ L cs m cm led (eval e env) fun v led1 => TrS (model prog w) A K h₀ L cs m cm led1 (call (.builtin id) [.ref l, v] []) C)
    (he : eval (.Call (.Attribute o name apos) [e] [] pos) env = (do
      let ov ← eval o env
      standAt apos.atName
      let (f, first) ← holding [ov] (getMethod ov name (do return (← importBound o env).getD true))
      callWith pos f first (backTo pos (starEach [e] env)) []) := by rfl) (he2 : starEach [e] env = (false, eval e env) :: starEach [] env := by rfl) :
    TrS (model prog w) A K h₀ L cs m cm led (eval (.Call (.Attribute o name apos) [e] [] pos) env) C :=
  Tr.lmeth (Vs := []) (he := he) ho (fun _ S => ⟨_, S.list hi⟩) slot hty fun pos => Tr.args1 (he := he2) hx fun v => Tr.exs fun led1 => Tr.pull fun h => h
theorem W.pop0 {l : Addr} {v : Value} {vs : List Value} {t : Tok} (i : Nat) (hi : led[i]? = some (l, PL (v :: vs))) (hz : szs (vs.length + 1)) (k : C v (led.set i (l, PL vs))) : TrS (model prog w) A K h₀ L cs m cm led (call (.builtin "list.pop") [.ref l, .int 0 t] []) C :=
  Tr.mono (pop0_ok (J := St K h₀ L cs m cm (led.set i (l, PL vs))) (fun _ S => S.list hi) hz fun _ _ S hs ⟨n, hn⟩ => S.put hi hs hn ⟨n, rfl⟩) fun _ _ r => ⟨_, r.1 ▸ k, r.2⟩
theorem W.extend {l b : Addr} {vs us : List Value} (i j : Nat) (hi : led[i]? = some (l, PL vs)) (hj : led[j]? = some (b, PL us)) (hz : szs (vs.length + us.length)) (k : C .none (led.set i (l, PL (vs ++ us)))) : TrS (model prog w) A K h₀ L cs m cm led (call (.builtin "list.extend") [.ref l, .ref b] []) C :=
  Tr.mono (extend_ok (J := St K h₀ L cs m cm (led.set i (l, PL (vs ++ us)))) (fun _ S => S.list hi) (fun _ S => S.list hj) hz fun _ _ S hs ⟨n, hn⟩ => S.put hi hs hn ⟨n, rfl⟩) fun _ _ r => ⟨_, r.1 ▸ k, r.2⟩
theorem Ex.exprW {e : Expr} {pos : Pos} {rest : List Stmt} {F : Flow → Heap → Prop} (x : TrS (model prog w) A K h₀ L cs m cm led (eval e env) fun v led' => v = .none ∧ Ex (model prog w) A (St K h₀ L cs m cm led') env rest F)
    (hi : interactive env = false := by rfl) (hs : swapsWith e none pos.line env = pure false := by rfl) : Ex (model prog w) A (St K h₀ L cs m cm led) env (.Expr e pos :: rest) F :=
  Ex.expr (hi := hi) (hs := hs) (J := fun g => ∃ led', Ex (model prog w) A (St K h₀ L cs m cm led') env rest F ∧ St K h₀ L cs m cm led' g) (Tr.mono x fun _ _ ⟨l, c, S⟩ => ⟨c.1, l, c.2, S⟩) fun g ⟨_, k, S⟩ => k g S
/-- a list told by more than its items: opened -/
theorem Ex.openW {β : Type} {Q : β → Obj → Prop} {B : β → Prop} {l : Addr} {ss : List Stmt} {F : Flow → Heap → Prop} (i : Nat) (hi : led[i]? = some (l, fun o => ∃ y, Q y o ∧ B y)) (k : ∀ y, B y → Ex (model prog w) A (St K h₀ L cs m cm (led.set i (l, Q y))) env ss F) : Ex (model prog w) A (St K h₀ L cs m cm led) env ss F := fun g S =>
  let ⟨_, ho, y, hq, hb⟩ := S.has hi
  k y hb g (S.re hi ho hq)
theorem W.openW {β : Type} {Q : β → Obj → Prop} {B : β → Prop} {l : Addr} {t : Sem Value} (i : Nat) (hi : led[i]? = some (l, fun o => ∃ y, Q y o ∧ B y)) (k : ∀ y, B y → TrS (model prog w) A K h₀ L cs m cm (led.set i (l, Q y)) t C) : TrS (model prog w) A K h₀ L cs m cm led t C := fun g S =>
  let ⟨_, ho, y, hq, hb⟩ := S.has hi
  k y hb g (S.re hi ho hq)
theorem W.exact {P : Obj → Prop} {l : Addr} {t : Sem Value} (i : Nat) (hi : led[i]? = some (l, P)) (k : ∀ o, P o → TrS (model prog w) A K h₀ L cs m cm (led.set i (l, fun x => x = o)) t C) : TrS (model prog w) A K h₀ L cs m cm led t C := fun g S =>
  let ⟨o, ho, hp⟩ := S.has hi
  k o hp g (S.re hi ho rfl)
end
end Mine

open PySem PySem.W PyProof.Rows
set_option maxRecDepth 100000
namespace Mine
open PySem PySem.W PySem.Calls PyProof.Rows
theorem all_same {α : Type} [DecidableEq α] (xs ys : List α) : (decide (xs.length = ys.length) && (List.range xs.length).all fun j => decide (xs[j]? = ys[j]?)) = decide (xs = ys) := by
  rw [Bool.eq_iff_iff, Bool.and_eq_true, List.all_eq_true, decide_eq_true_iff, decide_eq_true_iff]
  refine ⟨fun ⟨hl, h⟩ => List.ext_getElem? fun j => ?_, fun e => e ▸ ⟨rfl, fun _ _ => decide_eq_true rfl⟩⟩
  rcases Nat.lt_or_ge j xs.length with q | q
  · exact of_decide_eq_true (h j (List.mem_range.mpr q))
  · rw [List.getElem?_eq_none q, List.getElem?_eq_none (hl ▸ q)]
section
variable {prog : Program} {w : World} {A : Around} {α : Type} [DecidableEq α] {f g : α → Value → Prop} {l b : Addr} {xs ys : List α} {vs us : List Value} {h : Heap}
theorem item_same (hx : AllV (xs.map f) vs) (hy : AllV (ys.map g) us) (hE : ∀ a b v u, f a v → g b u → ∀ s : Shared, s.heap = h → SeqAt.EqAt A.in1 s v u (decide (a = b))) (s : Shared) (hs : s.heap = h) (j : Nat) (h1 : j < vs.length) (h2 : j < us.length) :
    SeqAt.EqAt A.in1 s vs[j] us[j] (decide (xs[j]? = ys[j]?)) := by
  obtain ⟨a, ea, ha⟩ := AllV.at hx (List.getElem?_eq_getElem h1)
  obtain ⟨c, ec, hc⟩ := AllV.at hy (List.getElem?_eq_getElem h2)
  have e : decide (xs[j]? = ys[j]?) = decide (a = c) := by rw [ea, ec]; exact decide_eq_decide.mpr ⟨fun e => Option.some.inj e, fun e => e ▸ rfl⟩
  rw [e]
  exact hE a c _ _ ha hc s hs
theorem eq_all (hu : A.units < cLine) (hl : h.IsList l vs.toArray) (hb : h.IsList b us.toArray) (hx : AllV (xs.map f) vs) (hy : AllV (ys.map g) us) (hE : ∀ a b v u, f a v → g b u → ∀ s : Shared, s.heap = h → SeqAt.EqAt A.in1 s v u (decide (a = b))) :
    Run (model prog w) A (compareOp .Eq (.ref l) (.ref b)) h fun d h' => IsB (decide (xs = ys)) d ∧ h' = h := by
  refine eq_lists (I := fun g => g = h) hu (fun _ e => e ▸ hl) (fun _ e => e ▸ hb) (fun _ e => ⟨fun j => decide (xs[j]? = ys[j]?), fun s hs => item_same hx hy hE s (hs.trans e), ?_⟩) h rfl
  rw [← all_same xs ys, AllV.length hx, AllV.length hy, List.length_map, List.length_map]
theorem ne_all (hu : A.units < cLine) (hl : h.IsList l vs.toArray) (hb : h.IsList b us.toArray) (hx : AllV (xs.map f) vs) (hy : AllV (ys.map g) us) (hE : ∀ a b v u, f a v → g b u → ∀ s : Shared, s.heap = h → SeqAt.EqAt A.in1 s v u (decide (a = b))) :
    Run (model prog w) A (compareOp .NotEq (.ref l) (.ref b)) h fun d h' => IsB (!decide (xs = ys)) d ∧ h' = h := Run.mk fun s Q E hs q => by
  have hit := item_same hx hy hE s hs
  subst hs
  have e1 : vs.length = xs.length := by rw [AllV.length hx, List.length_map]
  have e2 : us.length = ys.length := by rw [AllV.length hy, List.length_map]
  by_cases hz : xs.length = ys.length
  · refine SeqAt.RcNeAt.lists (e := fun j => decide (xs[j]? = ys[j]?)) hl hb (by simp [e1, e2, hz]) hu (fun j a b => by simpa using hit j (by simpa using a) (by simpa using b)) prog w E Q (q _ s.heap s.toks ⟨?_, rfl⟩)
    rw [← all_same xs ys, decide_eq_true hz, Bool.true_and, List.size_toArray, e1]
    rfl
  · refine SeqAt.RcNeAt.lists_lengths hl hb (by simp [e1, e2, hz]) hu prog w E Q (q _ s.heap s.toks ⟨?_, rfl⟩)
    rw [decide_eq_false (fun e : xs = ys => hz (congrArg List.length e))]
    rfl
theorem int_same (a b : Nat) (v u : Value) (ha : IsN a v) (hb : IsN b u) (s : Shared) (_ : s.heap = h) : SeqAt.EqAt A.in1 s v u (decide (a = b)) := by
  obtain ⟨t, rfl⟩ := ha; obtain ⟨t', rfl⟩ := hb
  have := (MeetsSeq.EqGives.int (a : Int) (b : Int) t t').at A.in1 s
  have e : ((a : Int) == (b : Int)) = decide (a = b) := by rw [Bool.eq_iff_iff, beq_iff_eq, decide_eq_true_iff]; omega
  rwa [e] at this
end
section
variable {prog : Program} {w : World} {K : Frag} {A : Around} {I : Heap → Prop} {env : Env}
theorem Ev.eqNil {e : Expr} {p pos : Pos} {l : Addr} {vs : List Value} (hI : Okk K I) (hu : A.units < cLine) (x : Ev (model prog w) A I env e (IsR l)) (hl : ∀ h, I h → h.IsList l vs.toArray) :
    Ev (model prog w) A I env (.Compare e [.Eq] [.List [] p] pos) (IsB (decide (vs = []))) := by
  refine Ev.cmp2 (J := fun a h => IsR l a ∧ I h) (J2 := fun a b h => IsR l a ∧ ∃ us, AllV [] us ∧ Al I (PL us) b h) x (fun a => Tr.pull fun ha => Tr.mono (Tr.list Es.nil (by unfold szs; decide)) fun _ _ r => ⟨ha, r⟩) fun a b h hh => ?_
  obtain ⟨rfl, us, hus, al⟩ := hh
  have hus : us = [] := by cases us with | nil => rfl | cons _ _ => exact hus.elim
  subst hus
  have i := al.back hI
  obtain ⟨h1, l2, o, rfl, i1, k1, n1, g1, n, rfl⟩ := al
  refine (eq_lists (I := fun g => g = h) (xs := vs) (ys := []) hu (fun g e => e ▸ hl _ i) (fun g e => e ▸ ⟨_, g1, rfl, _, rfl⟩) (fun g e => ⟨fun _ => true, fun s _ j _ h2 => absurd h2 (Nat.not_lt_zero _), ?_⟩) h rfl).mono fun d g r => ⟨r.1, r.2 ▸ i⟩
  cases vs with
  | nil => rfl
  | cons _ _ => rfl
theorem preSum_all (ns : List Nat) : preSum (fun i => (ns.getD i 0 : Int)) ns.length = (ns.sum : Nat) := by
  have : ∀ (k : Nat), k ≤ ns.length → preSum (fun i => (ns.getD i 0 : Int)) k = ((ns.take k).sum : Nat) := by
    intro k
    induction k with
    | zero => intro _; rfl
    | succ k ih =>
      intro hk
      rw [preSum, ih (Nat.le_of_succ_le hk), List.take_succ, List.sum_append, List.getD_eq_getElem?_getD, List.getElem?_eq_getElem hk]
      simp
  have h := this ns.length (Nat.le_refl _)
  rwa [List.take_length] at h
theorem sum_okN {l : Addr} {vs : List Value} {ns : List Nat} (hI : Okk K I) (hh : A.handled = none) (hi : AllN ns vs) (hl : ∀ h, I h → h.IsList l vs.toArray) (hz : ns.length ≤ 1000000) : ∀ as, AllV [IsR l] as → Tr (model prog w) A I (call (.builtin "sum") as []) fun a h' => IsN ns.sum a ∧ I h' := by
  refine all1 fun a ha h hh' => Run.mk fun s Q E hs q => ?_
  cases ha
  have x := hl _ hh'
  refine call_sum_walkG (Src.list (A := A.in1) hh x s _ E hs fun It T h' k fp wr hE W h0 hfp hwr => ?_)
  refine ⟨It, fp, wr, vs.length, _, T, fun i => (ns.getD i 0 : Int), rfl, W, h0, hfp, fun i v hv => ?_, fun h2 tk t' hk => q _ h2 tk ⟨?_, hI.grow _ _ hh' fun b o e => hk b o (fun z => by rw [hwr b z] at e; cases e) (hE b o e)⟩⟩
  · obtain ⟨n, hn, hv⟩ := AllV.at hi hv
    show IsI ((ns.getD i 0 : Nat) : Int) v
    rw [List.getD_eq_getElem?_getD, hn]
    exact hv
  · rw [hi.length, preSum_all]
    exact ⟨t', rfl⟩
end
section
variable {prog : Program} {w : World} {K : Frag} {A : Around} {env : Env} {h₀ : Heap} {L : Addr} {cs : List (Str × Addr)} {m cm : Str → Option Value} {led : Ledger} {C : Value → Ledger → Prop}
theorem W.q {t : Sem Value} {V : Value → Prop} (x : Tr (model prog w) A (St K h₀ L cs m cm led) t fun c h' => V c ∧ St K h₀ L cs m cm led h') (k : ∀ v, V v → C v led) : TrS (model prog w) A K h₀ L cs m cm led t C := Tr.mono x fun v _ r => ⟨led, k v r.1, r.2⟩
theorem W.bin {op : Operator} {l r : Expr} {pos : Pos} (x : TrS (model prog w) A K h₀ L cs m cm led (eval l env) fun a led1 => TrS (model prog w) A K h₀ L cs m cm led1 (eval r env) fun b led2 => TrS (model prog w) A K h₀ L cs m cm led2 (binaryOp op a b) C) :
    TrS (model prog w) A K h₀ L cs m cm led (eval (.BinOp l op r pos) env) C := Tr.bin2 x (fun _ => Tr.exs fun _ => Tr.pull fun h => h) fun _ _ => Tr.exs fun _ => Tr.pull fun h => h
theorem W.cat {a b : Addr} {vs us : List Value} (i j : Nat) (hi : led[i]? = some (a, PL vs)) (hj : led[j]? = some (b, PL us)) (hz : szs (vs.length + us.length)) (k : ∀ l, C (.ref l) ((l, PL (vs ++ us)) :: led)) : TrS (model prog w) A K h₀ L cs m cm led (binaryOp .Add (.ref a) (.ref b)) C :=
  Tr.mono (cat_ok (fun _ S => S.list hi) (fun _ S => S.list hj) hz _ _ rfl rfl) fun _ _ al => let ⟨l, e, S⟩ := al.st; ⟨_, e ▸ k l, S⟩
/-- a method called on what an expression gives -/
theorem W.meth {o e : Expr} {name : Str} {apos pos : Pos} {id : String} (slot : Slot "list" name id) (hty : typeOf (.builtin id) = pure (.type "method_descriptor"))
    (ho : TrS (model prog w) A K h₀ L cs m cm led (eval o env) fun v led1 => ∃ l vs, v = .ref l ∧ (∃ i : Nat, led1[i]? = some (l, PL vs)) ∧ TrS (model prog w) A K h₀ L cs m cm led1 (eval e env) fun u led2 => TrS (model prog w) A K h₀ L cs m cm led2 (call (.builtin id) [.ref l, u] []) C)
    (he : eval (.Call (.Attribute o name apos) [e] [] pos) env = (do
      let ov ← eval o env
      standAt apos.atName
      let (f, first) ← holding [ov] (getMethod ov name (do return (← importBound o env).getD true))
      callWith pos f first (backTo pos (starEach [e] env)) []) := by rfl) (he2 : starEach [e] env = (false, eval e env) :: starEach [] env := by rfl) :
    TrS (model prog w) A K h₀ L cs m cm led (eval (.Call (.Attribute o name apos) [e] [] pos) env) C := fun h hh => Run.mk fun s Q E hs q => by
  refine MethodCall_ (he := he) ((ho h hh).bindK hs fun v h1 k1 r1 => ?_)
  obtain ⟨led1, ⟨l, vs, rfl, ⟨i, hi⟩, x⟩, S⟩ := r1
  obtain ⟨n, hL⟩ := S.list hi
  exact getMethod_builtin ⟨_, hL, rfl⟩ PySem.F.plainAttrs_list slot hty (fun a e => by cases e; exact ⟨_, hL, rfl⟩) ((Tr.args1 (first := [.ref l]) (he := he2) (R := fun v h' => ∃ led', C v led' ∧ St K h₀ L cs m cm led' h') x (fun v => Tr.exs fun led1 => Tr.pull fun h => h) h1 S).bindK rfl q)
theorem count_nat (n : Nat) : ∀ l : List Nat, (l.map Int.ofNat).count (Int.ofNat n) = l.count n
  | [] => rfl
  | a :: l => by
    have e : (Int.ofNat a == Int.ofNat n) = (a == n) := by
      rw [Bool.eq_iff_iff, beq_iff_eq, beq_iff_eq]
      exact ⟨Int.ofNat.inj, congrArg Int.ofNat⟩
    rw [List.map_cons, List.count_cons, List.count_cons, count_nat n l, e]
theorem W.count {l : Addr} {vs : List Value} {ns : List Nat} {v : Value} {n : Nat} (i : Nat) (hi : led[i]? = some (l, PL vs)) (hn : AllN ns vs) (hv : IsN n v) (k : ∀ u, IsN (ns.count n) u → C u led) : TrS (model prog w) A K h₀ L cs m cm led (call (.builtin "list.count") [.ref l, v] []) C := by
  refine W.q (V := IsN (ns.count n)) (fun h S => Run.mk fun s Q E hs q => ?_) k
  obtain ⟨t, rfl⟩ := hv
  subst hs
  refine count_list_ints (S.list hi).isList hn.ints (q _ s.heap _ ⟨⟨s.toks, ?_⟩, S⟩)
  show Value.int _ _ = Value.int _ _
  congr 2
  exact count_nat n ns
/-- the first items of a list -/
theorem W.slice {e hi : Expr} {p pos : Pos} {l : Addr} {vs : List Value} {n : Nat} (x : Ev (model prog w) A (St K h₀ L cs m cm led) env e (IsR l)) (hl : ∀ h, St K h₀ L cs m cm led h → h.IsList l vs.toArray) (hz : szs vs.length)
    (y : Ev (model prog w) A (St K h₀ L cs m cm led) env hi (IsN n)) (k : ∀ D, C (.ref D) ((D, PL (vs.take n)) :: led)) (ht : ∀ o r, letTemporaryGo e o r = pure () := by intro _ _; rfl) :
    TrS (model prog w) A K h₀ L cs m cm led (eval (.Subscript e (.Slice none (some hi) none p) pos) env) C := fun h S => Run.mk fun s Q E hs q => by
  refine wpAny_Subscript_list_slice (ht := ht) ((x h S).bindK hs fun a h1 k1 r1 => evalPart_none_step (evalPart_some_step ((y h1 r1.2).bindK rfl fun b h2 k2 r2 => ?_)))
  obtain ⟨⟨t, rfl⟩, S2⟩ := r2
  have ra := r1.1
  cases ra
  refine ⟨l, vs.toArray, none, some (n : Int), rfl, hl _ S2, by rw [List.size_toArray]; exact hz.line, .none, .int _ _, ?_⟩
  have S3 := St.okk.grow _ _ S2 (push_ext h2 { cls := .type "slice", data := .fields #[.none, .int (n : Int) t, .none] })
  have S4 := S3.add (P := PL (vs.take n)) (push_ext _ { cls := .type "list", data := .seq (slicePick vs.toArray none (some (n : Int)) none) }) (push_none _) (Heap.get?_push_size _ rfl) ⟨0, by rw [slicePick_upto']⟩
  rw [Heap.size_push] at S4
  exact q _ _ _ ⟨_, k _, S4⟩
theorem joined : ∀ (ns : List Nat), Txt.join ⟨#[]⟩ (ns.map fun c => (⟨#[c]⟩ : Str)) = ⟨ns.toArray⟩ := by
  have : ∀ (ns : List Nat) (acc : Array Nat), (ns.map fun c => (⟨#[c]⟩ : Str)).foldl (fun acc p => acc ++ #[] ++ p.cps) acc = acc ++ ns.toArray := by
    intro ns
    induction ns with
    | nil => intro acc; simp
    | cons a ns ih => intro acc; rw [List.map_cons, List.foldl_cons, ih]; apply Array.ext'; simp
  intro ns
  cases ns with
  | nil => rfl
  | cons a ns =>
    show Str.mk (((ns.map fun c => (⟨#[c]⟩ : Str))).foldl _ #[a]) = _
    rw [this]
    congr 1
    apply Array.ext'
    simp
theorem strs_of : ∀ {ns : List Nat} {vs : List Value}, AllV (ns.map fun c => IsStr ⟨#[c]⟩) vs → StrsAre vs (ns.map fun c => ⟨#[c]⟩)
  | [], [], _ => .nil
  | [], _ :: _, e => e.elim
  | _ :: _, [], e => e.elim
  | n :: ns, v :: vs, e => by
    obtain ⟨t, rfl⟩ := e.1
    exact .cons _ _ (strs_of (ns := ns) e.2)
/-- the text of a list of signs -/
theorem W.join {e : Expr} {x : Str} {k : Nat} {p apos pos : Pos} (hx0 : x = ⟨#[]⟩)
    (hx : TrS (model prog w) A K h₀ L cs m cm led (eval e env) fun v led1 => ∃ l vs ns, v = .ref l ∧ (∃ i : Nat, led1[i]? = some (l, PL vs)) ∧ AllV (ns.map fun c => IsStr ⟨#[c]⟩) vs ∧ ns.length ≤ 1000 ∧ ∀ u, IsT ns u → C u led1)
    (he : eval (.Call (.Attribute (.Constant (.str x) k p) "join" apos) [e] [] pos) env = (do
      let ov ← eval (.Constant (.str x) k p) env
      standAt apos.atName
      let (f, first) ← holding [ov] (getMethod ov "join" (do return (← importBound (.Constant (.str x) k p) env).getD true))
      callWith pos f first (backTo pos (starEach [e] env)) []) := by rfl) (he2 : starEach [e] env = (false, eval e env) :: starEach [] env := by rfl) :
    TrS (model prog w) A K h₀ L cs m cm led (eval (.Call (.Attribute (.Constant (.str x) k p) "join" apos) [e] [] pos) env) C := fun h hh => Run.mk fun s Q E hs q => by
  refine MethodCall_ (he := he) ((Ev.str h hh).bindK hs fun v h1 k1 r1 => ?_)
  obtain ⟨⟨t, rfl⟩, S⟩ := r1
  refine getMethod_builtin (typeIs_str _ _ _) PySem.F.plainAttrs_str F.slot_str_join rfl (fun a e => nomatch e) ((Tr.args1 (he := he2) hx (R := fun v h' => ∃ led', C v led' ∧ St K h₀ L cs m cm led' h') (fun v => Tr.exs fun led1 => Tr.pull fun h => ?_) h1 S).bindK rfl q)
  obtain ⟨l, vs, ns, rfl, ⟨i, hi⟩, hn, hz, k⟩ := h
  refine fun h2 S2 => Run.mk fun s Q E hs q => ?_
  subst hs
  refine join_list (S2.list hi).isList (strs_of hn) ?_ fun t' kk => q _ s.heap kk ⟨led1, k _ ⟨t', ?_⟩, S2⟩
  · have e1 : ((ns.map fun c => (⟨#[c]⟩ : Str)).map (·.length)).sum = ns.length := by
      clear hn hz hi k
      induction ns with
      | nil => rfl
      | cons a ns ih => rw [List.map_cons, List.map_cons, List.sum_cons, ih, List.length_cons]; show 1 + _ = _; omega
    have e2 : x.length = 0 := by rw [hx0]; rfl
    rw [e1, e2]
    omega
  · rw [hx0, joined]
end
end Mine

open PySem PySem.W PyProof.Rows
namespace Mine
open PySem
/-- where the reckoning stands -/
structure DS where
  place : Nat
  waits : List Nat
  kind : Nat
abbrev Ent := Nat × List Nat × Nat × Nat
def whiteOf (cs : List Nat) (kind : Nat) : List Nat := cs.filter fun c => decide (stch (c : Int) ∈ kindL.getD kind [])
def wordAt (cs : List Nat) (d : DS) : List Nat := match d.waits with | w :: _ => [w] | [] => (lawWord cs d.place (whiteOf cs d.kind)).1
def placeAt (cs : List Nat) (d : DS) : Nat := match d.waits with | _ :: _ => d.place | [] => (lawWord cs d.place (whiteOf cs d.kind)).2
def moreOf (word : List Nat) : List Nat := if (decide (word.length = 1) && !decide (shown (word.getD 0 0) = word)) = true then shown (word.getD 0 0) else []
def turnOf (word : List Nat) : Nat := if decide (word.length = 1) = true then word.getD 0 0 % 32 else 7 + word.sum % 32
def stepD (cs : List Nat) (d : DS) : DS := ⟨placeAt cs d, d.waits.tail ++ moreOf (wordAt cs d), (d.kind + 1 + turnOf (wordAt cs d)) % 15⟩
def entD (cs : List Nat) (d : DS) : Ent := (d.kind, wordAt cs d, 1 + (cs.take (placeAt cs d)).count 10, cs.length - placeAt cs d)
def endD (cs : List Nat) (d : DS) : Bool := decide (d.place = cs.length) && decide (d.waits = [])
def runD (cs : List Nat) (d : DS) : Nat → DS
  | 0 => d
  | n + 1 => stepD cs (runD cs d n)
def entsD (cs : List Nat) (d : DS) (n : Nat) : List Ent := (List.range n).map fun i => entD cs (runD cs d i)
theorem entsD_succ (cs : List Nat) (d : DS) (n : Nat) : entsD cs d (n + 1) = entsD cs d n ++ [entD cs (runD cs d n)] := by unfold entsD; rw [List.range_succ, List.map_append]; rfl

theorem endsOf_sub {cs : List Nat} {q : Bool} {wh l : List Nat} : ∀ x ∈ endsOf cs q wh l, x ∈ l := fun _ h => (List.mem_filter.mp h).1
theorem stopOf_ge {cs ends : List Nat} {p : Nat} (hp : p ≤ cs.length) (h : ∀ x ∈ ends, p ≤ x) : p ≤ stopOf cs ends := by
  unfold stopOf
  cases ends with
  | nil => exact hp
  | cons a _ => exact h a (List.mem_cons_self ..)
theorem headsOf_ge {cs : List Nat} {p : Nat} {wh : List Nat} : ∀ x ∈ headsOf cs p wh, p ≤ x ∧ x < cs.length := fun x h => by
  obtain ⟨j, hj, rfl⟩ := List.mem_map.mp (List.mem_filter.mp h).1
  have := List.mem_range.mp hj
  omega
theorem getD_mem {cs : List Nat} {k : Nat} (h : k < cs.length) : cs.getD k 0 ∈ cs := by
  rw [List.getD_eq_getElem?_getD, List.getElem?_eq_getElem h]
  exact List.getElem_mem h
theorem lawWord_facts (cs : List Nat) (p : Nat) (wh : List Nat) (hp : p ≤ cs.length) :
    (lawWord cs p wh).2 ≤ cs.length ∧ (p < cs.length → p < (lawWord cs p wh).2) ∧ (∀ c ∈ (lawWord cs p wh).1, c ∈ cs) ∧ (p = cs.length → (lawWord cs p wh).2 = cs.length) := by
  unfold lawWord
  cases hh : headsOf cs p wh with
  | nil => exact ⟨Nat.le_refl _, fun h => h, fun c h => (nomatch h), fun _ => rfl⟩
  | cons a b =>
    have ha := headsOf_ge (cs := cs) (p := p) (wh := wh) a (by rw [hh]; exact List.mem_cons_self ..)
    dsimp only
    generalize hq : quotedAt cs a = q
    have hge : p ≤ stopOf cs (endsOf cs q wh (loneOf (unitsOf cs (q || !decide (92 ∈ wh)) (a + if q = true then 1 else 0)))) := by
      refine stopOf_ge hp fun x hx => ?_
      obtain ⟨u, hu, rfl⟩ := List.mem_map.mp (endsOf_sub x hx)
      have := (unitsOf_pos _ u (List.mem_filter.mp hu).1).2.2
      omega
    refine ⟨Nat.min_le_right .., fun h => by omega, fun c hc => ?_, fun e => by omega⟩
    obtain ⟨u, hu, rfl⟩ := List.mem_map.mp hc
    obtain ⟨hu1, hu2⟩ := List.mem_filter.mp hu
    rw [Bool.and_eq_true] at hu2
    have h1 := of_decide_eq_true hu2.2
    have h2 := unitsOf_pos _ u hu1
    exact getD_mem (by omega)

/-! what is written otherwise comes to an end -/
theorem shown_plain {x : Nat} (h0 : 32 ≤ x) (h1 : x ≤ 126) : shown x = [x] := by
  unfold shown low1
  have e1 : x % 128 = x := Nat.mod_eq_of_lt (by omega)
  have e2 : x % 256 = x := Nat.mod_eq_of_lt (by omega)
  rw [e1, e2, if_neg (by omega), if_neg (by omega), if_neg (by omega)]
def wt (c : Nat) : Nat := if 32 ≤ c ∧ c ≤ 126 then 1 else if c = 159 then 5 else 9
theorem wt_plain {c : Nat} (h0 : 32 ≤ c) (h1 : c ≤ 126) : wt c = 1 := if_pos ⟨h0, h1⟩
theorem wt_pos (c : Nat) : 1 ≤ wt c := by unfold wt; (repeat' split) <;> decide
theorem wt_odd {c : Nat} (h : ¬ (32 ≤ c ∧ c ≤ 126)) : 5 ≤ wt c ∧ (c ≠ 159 → wt c = 9) := by
  unfold wt
  rw [if_neg h]
  split <;> omega
theorem low1_wt (c : Nat) : ((low1 c).map wt).sum ≤ 6 ∧ (c % 128 ≠ 127 → ((low1 c).map wt).sum ≤ 2) := by
  unfold low1
  split
  · refine ⟨?_, fun h => absurd ‹_› h⟩
    split <;> decide
  · split
    · have : wt (c % 128 + 64) = 1 := wt_plain (by omega) (by omega)
      simp only [List.map_cons, List.map_nil, List.sum_cons, List.sum_nil, this, show wt 94 = 1 from rfl]
      omega
    · have : wt (c % 128) = 1 := wt_plain (by omega) (by omega)
      simp only [List.map_cons, List.map_nil, List.sum_cons, List.sum_nil, this]
      omega
theorem shown_wt (c : Nat) : ((moreOf [c]).map wt).sum < wt c := by
  have hp := wt_pos c
  unfold moreOf
  by_cases h : 32 ≤ c ∧ c ≤ 126
  · rw [if_neg]
    · exact hp
    · show ¬ (decide ([c].length = 1) && !decide (shown c = [c])) = true
      rw [shown_plain h.1 h.2]
      simp
  · split
    · obtain ⟨h5, h9⟩ := wt_odd h
      have hl := low1_wt c
      show ((shown c).map wt).sum < wt c
      unfold shown
      have e33 : wt 33 = 1 := rfl
      by_cases h159 : c = 159
      · subst h159; decide
      · have := h9 h159
        split
        · rw [List.map_cons, List.sum_cons, e33]; omega
        · omega
    · exact hp
def waitW (l : List Nat) : Nat := (l.map wt).sum
def muD (cs : List Nat) (d : DS) : Nat := 20 * (cs.length - d.place) + waitW d.waits
theorem waitW_len : ∀ l : List Nat, l.length ≤ waitW l
  | [] => Nat.le_refl _
  | c :: l => by
    have := waitW_len l
    have := wt_pos c
    unfold waitW at *
    rw [List.map_cons, List.sum_cons, List.length_cons]
    omega
structure OkD (cs : List Nat) (d : DS) : Prop where
  place : d.place ≤ cs.length
  kind : d.kind < 15
  waits : ∀ c ∈ d.waits, c < 55296
theorem low1_lt {c x : Nat} (h : x ∈ low1 c) : x < 256 := by
  unfold low1 at h
  split at h
  · rcases List.mem_cons.mp h with rfl | h
    · decide
    · rw [List.mem_singleton.mp h]; split <;> decide
  · split at h
    · rcases List.mem_cons.mp h with rfl | h
      · decide
      · rw [List.mem_singleton.mp h]; omega
    · rw [List.mem_singleton.mp h]; omega
theorem shown_lt {c x : Nat} (h : x ∈ shown c) : x < 256 := by
  unfold shown at h
  split at h
  · rcases List.mem_cons.mp h with rfl | h
    · decide
    · exact low1_lt h
  · exact low1_lt h
theorem moreOf_lt {l : List Nat} {x : Nat} (h : x ∈ moreOf l) : x < 256 := by
  unfold moreOf at h
  split at h
  · exact shown_lt h
  · cases h
theorem low1_len (c : Nat) : 1 ≤ (low1 c).length ∧ (low1 c).length ≤ 2 := by unfold low1; (repeat' split) <;> simp
theorem shown_len (c : Nat) : 1 ≤ (shown c).length ∧ (shown c).length ≤ 3 := by
  have := low1_len c
  unfold shown
  split
  · rw [List.length_cons]; omega
  · omega
theorem okD_step {cs : List Nat} {d : DS} (h : OkD cs d) : OkD cs (stepD cs d) := by
  refine ⟨?_, Nat.mod_lt _ (by decide), fun c hc => ?_⟩
  · show placeAt cs d ≤ cs.length
    unfold placeAt
    split
    · exact h.place
    · exact (lawWord_facts _ _ _ h.place).1
  · rcases List.mem_append.mp hc with hc | hc
    · exact h.waits c (List.mem_of_mem_tail hc)
    · have := moreOf_lt hc
      omega
theorem okD_run {cs : List Nat} {d : DS} (h : OkD cs d) : ∀ n, OkD cs (runD cs d n)
  | 0 => h
  | n + 1 => okD_step (okD_run h n)
theorem word_lt {cs : List Nat} {d : DS} (h : OkD cs d) (hc : ∀ c ∈ cs, c < 55296) : ∀ c ∈ wordAt cs d, c < 55296 := fun c hm => by
  unfold wordAt at hm
  split at hm
  · rename_i w l e
    rw [List.mem_singleton.mp hm]
    exact h.waits w (by rw [e]; exact List.mem_cons_self ..)
  · exact hc c ((lawWord_facts _ _ _ h.place).2.2.1 c hm)
theorem word_len {cs : List Nat} {d : DS} (h : 1 ≤ cs.length) : (wordAt cs d).length ≤ cs.length := by
  unfold wordAt
  split
  · exact h
  · unfold lawWord
    split
    · exact Nat.zero_le _
    · dsimp only
      unfold wordOf
      rw [List.length_map]
      exact Nat.le_trans (List.length_filter_le ..) (Nat.le_trans (unitsOf_len _) (Nat.sub_le ..))
theorem mu_step {cs : List Nat} {d : DS} (h : OkD cs d) (he : endD cs d = false) : muD cs (stepD cs d) < muD cs d := by
  unfold muD stepD waitW
  dsimp only
  cases hw : d.waits with
  | cons w l =>
    have e1 : placeAt cs d = d.place := by unfold placeAt; rw [hw]
    have e2 : wordAt cs d = [w] := by unfold wordAt; rw [hw]
    rw [e1, e2, List.tail_cons, List.map_append, List.sum_append, List.map_cons, List.sum_cons]
    have := shown_wt w
    omega
  | nil =>
    have hlt : d.place < cs.length := by
      unfold endD at he
      rw [hw] at he
      have hp := h.place
      simp at he
      omega
    have e1 : placeAt cs d = (lawWord cs d.place (whiteOf cs d.kind)).2 := by unfold placeAt; rw [hw]
    have hm : ((moreOf (wordAt cs d)).map wt).sum ≤ 9 := by
      have hx : ∀ l : List Nat, ((moreOf l).map wt).sum ≤ 9 := fun l => by
        by_cases hl : ∃ c, l = [c]
        · obtain ⟨c, rfl⟩ := hl
          have := shown_wt c
          have : wt c ≤ 9 := by unfold wt; (repeat' split) <;> decide
          omega
        · unfold moreOf
          rw [if_neg]
          · exact Nat.zero_le _
          · rw [Bool.and_eq_true]
            intro q
            have := of_decide_eq_true q.1
            match l, this with
            | [c], _ => exact hl ⟨c, rfl⟩
      exact hx _
    have h1 := lawWord_facts cs d.place (whiteOf cs d.kind) h.place
    have h2 := h1.2.1 hlt
    rw [e1]
    simp only [List.tail_nil, List.nil_append, List.map_nil, List.sum_nil]
    omega
end Mine

open PySem PySem.W PyProof.Rows
set_option maxRecDepth 100000
namespace Mine
open PySem PySem.W PySem.Calls PyProof.Rows
section
variable {K : Frag} {h₀ : Heap} {L : Addr} {cs : List (Str × Addr)} {m cm : Str → Option Value} {led led' : Ledger}
theorem St.perm {h : Heap} (S : St K h₀ L cs m cm led h) (p : led.Perm led') : St K h₀ L cs m cm led' h :=
  S.sub (fun q hq => ⟨q, p.mem_iff.mpr hq, rfl, fun _ e => e⟩) ((p.map Prod.fst).nodup_iff.mp S.nd)
end
section
variable {prog : Program} {w : World} {K : Frag} {A : Around} {env : Env} {h₀ : Heap} {L : Addr} {cs : List (Str × Addr)} {m cm : Str → Option Value} {led : Ledger} {C : Value → Ledger → Prop}
theorem W.perm {t : Sem Value} {led' : Ledger} (p : led.Perm led') (x : TrS (model prog w) A K h₀ L cs m cm led' t C) : TrS (model prog w) A K h₀ L cs m cm led t C := Tr.pre x fun _ S => S.perm p
theorem Ex.permW {ss : List Stmt} {F : Flow → Heap → Prop} {led' : Ledger} (p : led.Perm led') (x : Ex (model prog w) A (St K h₀ L cs m cm led') env ss F) : Ex (model prog w) A (St K h₀ L cs m cm led) env ss F := Tr.pre x fun _ S => S.perm p
theorem Ex.castW {ss : List Stmt} {F : Flow → Heap → Prop} {led' : Ledger} (p : led = led') (x : Ex (model prog w) A (St K h₀ L cs m cm led') env ss F) : Ex (model prog w) A (St K h₀ L cs m cm led) env ss F := p ▸ x
theorem W.alX {t : Sem Value} {P : Obj → Prop} (x : Tr (model prog w) A (St K h₀ L cs m cm led) t fun v h' => ∃ h1, St K h₀ L cs m cm led h1 ∧ Al (fun g => g = h1) P v h') (k : ∀ l o, P o → C (.ref l) ((l, fun g => g = o) :: led)) : TrS (model prog w) A K h₀ L cs m cm led t C :=
  Tr.mono x fun v _ r => let ⟨_, l, o, e, S, g, n, f, p⟩ := Al.of r; ⟨_, e ▸ k l o p, S.add (P := fun g => g = o) g n f rfl⟩
theorem W.comp {elt iter : Expr} {x : Str} {px : Pos} {ifs : List Expr} {scope : Scope} {cl : List (Str × Addr)} {pos : Pos} {n : Nat} {P : Nat → Value → Prop} {p : Value → Bool} {F : Value → Value → Prop}
    (hsrc : Tr (model prog w) A (St K h₀ L cs m cm led) (eval iter env) fun xv h₁ => St K h₀ L cs m cm led h₁ ∧ Src prog w A xv h₁ n P ∧ Elt prog w A env h₁ scope cl x ifs elt P p F) (hz : n ≤ 1000000)
    (hclos : closureFor scope env = pure cl) (k : ∀ D (us vs : List Value), us.length = n → (∀ j u, us[j]? = some u → P j u) → Paired F (us.filter p) vs → C (.ref D) ((D, PL vs) :: led))
    (hs : ∀ x, foldedSetIterable iter env x = pure x := by intro _; rfl) (hcell : ∀ y ∈ scope.names, y.2 ≠ .cell := by decide) (hkind : scope.kind = .function := by rfl)
    (hnames : ∀ y ∈ scope.names, y.2 = .local → scope.names.lookup y.1 = some .local := by decide) (hx : scope.names.lookup x = some .local := by rfl) :
    TrS (model prog w) A K h₀ L cs m cm led (eval (.ListComp elt [⟨.Name x px, iter, ifs, 0⟩] scope pos) env) C :=
  Tr.mono (Tr.comp hsrc hz hclos hs hcell hkind hnames hx) fun _ _ ⟨us, vs, h1, h2, h3, al⟩ => let ⟨D, e, S⟩ := al.st; ⟨_, e ▸ k D us vs h1 h2 h3, S⟩
/-- a comparison whose sides make objects -/
theorem Tv.cmpS {op : CmpOp} {l r : Expr} {pos : Pos} {c : Bool} (x : TrS (model prog w) A K h₀ L cs m cm led (eval l env) fun a led1 => TrS (model prog w) A K h₀ L cs m cm led1 (eval r env) fun b led2 => (∀ h, St K h₀ L cs m cm led2 h → St K h₀ L cs m cm led h) ∧ ∀ h, St K h₀ L cs m cm led2 h → Run (model prog w) A (compareOp op a b) h fun d h' => IsB c d ∧ h' = h)
    (hm : behindInMarks op r = false := by with_unfolding_all rfl) : Tv (model prog w) A (St K h₀ L cs m cm led) env (.Compare l [op] [r] pos) c :=
  Tv.cmp2 (hm := hm) x (fun _ => Tr.exs fun _ => Tr.pull fun h => h) fun _ _ h ⟨_, ⟨hd, ho⟩, S⟩ => (ho h S).mono fun _ _ r => ⟨r.1, r.2 ▸ hd _ S⟩
/-- stores of the items of a tuple that stands in the heap, one by one -/
theorem Ex.unpackN {elts : List Expr} {names : List Str} {k : Nat} {tpos : Pos} {e : Expr} {pos : Pos} {rest : List Stmt} {F : Flow → Heap → Prop} (hh : A.handled = none)
    (hx : TrS (model prog w) A K h₀ L cs m cm led (eval e env) fun v led' => ∃ t vs, v = .ref t ∧ (∃ i : Nat, (led' : Ledger)[i]? = some (t, TT vs)) ∧ vs.length = names.length ∧ Ex (model prog w) A (St K h₀ L cs (stL env names vs m) (stC env names vs cm) led') env rest F)
    (hp : Paired (fun x c => ∀ (v : Value) (s : Shared) (Q : Unit → Shared → Prop) (E : Value → Shared → Prop), wpAny (model prog w) A (storeName env x v) Q E s → wpAny (model prog w) A (c v) Q E s) names ((assignEach elts env).map (·.2)))
    (hok : names.all (stOk env cs) = true := by rfl) (hL : env.locals = L := by rfl) (hC : env.cells = cs := by rfl) (hk : env.scope.kind = .function := by rfl)
    (hs : swapsWithSole [.Tuple elts k tpos] e pos.line env = pure false := by rfl) (hw : swappedStores [.Tuple elts k tpos] e env = pure none := by rfl)
    (hl : (assignEach elts env).length = names.length := by rfl) (hf : (assignEach elts env).findIdx? (·.1) = none := by rfl) :
    Ex (model prog w) A (St K h₀ L cs m cm led) env (.Assign [.Tuple elts k tpos] e pos :: rest) F := fun h hI => Run.mk fun s Q E hs' q => by
  refine wpAny_execs_cons (Assign_Tuple (hs := hs) (hw := hw) ((hx h hI).bindK hs' fun v h1 k1 r1 => ?_))
  obtain ⟨led', ⟨t, vs, rfl, ⟨i, hi⟩, hn, kx⟩, S⟩ := r1
  refine wpAny_assign_Tuple hh (S.has_tup hi) (by rw [hl, List.size_toArray, hn]) hf fun h2 he => ?_
  have S2 := St.okk.grow _ _ S (fun b o e => he b o (Nat.ne_of_lt (Heap.lt_size e)) e)
  refine (store_all hn.symm (List.all_eq_true.mp hok) hL hC hk hp h2 S2).bindK rfl fun _ g k r => ?_
  exact (kx g r).bindK rfl q
/-- while, told by a state -/
theorem Ex.whileV {σ : Type} {test : Expr} {body rest : List Stmt} {pos : Pos} (mf cf : σ → Str → Option Value) (lf : σ → Ledger) (R : Nat → σ → Prop) (b : σ → Bool) {G : Flow → Heap → Prop} (n : Nat) (z : σ) (hz : R n z) (em : mf z = m) (ec : cf z = cm) (el : lf z = led)
    (ht : ∀ k z, R k z → Tv (model prog w) A (St K h₀ L cs (mf z) (cf z) (lf z)) env test (b z))
    (hb : ∀ k z, R k z → b z = true → Ex (model prog w) A (St K h₀ L cs (mf z) (cf z) (lf z)) env body fun fl h' => fl = .next ∧ ∃ k' z', k' < k ∧ R k' z' ∧ St K h₀ L cs (mf z') (cf z') (lf z') h')
    (hr : ∀ k z, R k z → b z = false → Ex (model prog w) A (St K h₀ L cs (mf z) (cf z) (lf z)) env rest G) : Ex (model prog w) A (St K h₀ L cs m cm led) env (.While test body [] pos :: rest) G := by
  subst em ec el
  refine Ex.while_ (J := fun k g => ∃ z, R k z ∧ St K h₀ L cs (mf z) (cf z) (lf z) g) (T := fun k g => ∃ z, (R k z ∧ b z = true) ∧ St K h₀ L cs (mf z) (cf z) (lf z) g) (X := fun g => ∃ k z, (R k z ∧ b z = false) ∧ St K h₀ L cs (mf z) (cf z) (lf z) g)
    n (fun g S => ⟨z, hz, S⟩) (fun k g ⟨z, hR, S⟩ => ?_) (fun k g ⟨z, h, S⟩ => Run.mono (hb k z h.1 h.2 g S) fun _ _ ⟨e, k', z', h1, h2, h3⟩ => ⟨e, k', h1, z', h2, h3⟩) (fun g ⟨k, z, h, S⟩ => hr k z h.1 h.2 g S)
  refine Run.mono (ht k z hR g S) fun c h' r => ?_
  obtain ⟨e, S'⟩ := r
  cases c with
  | true => simp only [if_true]; exact ⟨z, ⟨hR, e.symm⟩, S'⟩
  | false => simp only [Bool.false_eq_true, if_false]; exact ⟨k, z, ⟨hR, e.symm⟩, S'⟩
/-- the end of a turn -/
theorem Ex.again {σ : Type} {mf cf : σ → Str → Option Value} {lf : σ → Ledger} {R : Nat → σ → Prop} {k : Nat} (mk : (Str → Option Value) → (Str → Option Value) → σ) (k' : Nat) (hk : k' < k) (hR : R k' (mk m cm)) (em : mf (mk m cm) = m) (ec : cf (mk m cm) = cm) (el : lf (mk m cm) = led) :
    Ex (model prog w) A (St K h₀ L cs m cm led) env [] fun fl h' => fl = .next ∧ ∃ k' z', k' < k ∧ R k' z' ∧ St K h₀ L cs (mf z') (cf z') (lf z') h' := Ex.nil fun g S => ⟨rfl, k', mk m cm, hk, hR, by rw [em, ec, el]; exact S⟩
/-- if, whose branches leave ledgers told by X -/
theorem Ex.ifW {test : Expr} {body orelse rest : List Stmt} {pos : Pos} {b : Bool} {F : Flow → Heap → Prop} (X : Ledger → Prop) (t : Tv (model prog w) A (St K h₀ L cs m cm led) env test b)
    (hb : b = true → Ex (model prog w) A (St K h₀ L cs m cm led) env body (nx (fun g => ∃ led', X led' ∧ St K h₀ L cs m cm led' g) F)) (ho : b = false → Ex (model prog w) A (St K h₀ L cs m cm led) env orelse (nx (fun g => ∃ led', X led' ∧ St K h₀ L cs m cm led' g) F))
    (hr : ∀ led', X led' → Ex (model prog w) A (St K h₀ L cs m cm led') env rest F) : Ex (model prog w) A (St K h₀ L cs m cm led) env (.If test body orelse pos :: rest) F :=
  Ex.if_ t hb ho fun g ⟨led', hX, S⟩ => hr led' hX g S
theorem W.thenPerm {t : Sem Value} (x : TrS (model prog w) A K h₀ L cs m cm led t fun v led' => ∃ led'', led'.Perm led'' ∧ C v led'') : TrS (model prog w) A K h₀ L cs m cm led t C :=
  Tr.mono x fun _ _ ⟨_, ⟨l, p, c⟩, S⟩ => ⟨l, c, S.perm p⟩
end
theorem AllV.nth {α : Type} {f : α → Value → Prop} {l : List α} {vs : List Value} (h : AllV (l.map f) vs) {j : Nat} {a : α} (e : l[j]? = some a) : ∃ u, vs[j]? = some u ∧ f a u := by
  have hl : j < vs.length := by
    rw [AllV.length h, List.length_map]
    rcases Nat.lt_or_ge j l.length with q | q
    · exact q
    · rw [List.getElem?_eq_none q] at e; cases e
  obtain ⟨b, hb, hu⟩ := AllV.at h (List.getElem?_eq_getElem hl)
  rw [e] at hb; cases hb
  exact ⟨_, List.getElem?_eq_getElem hl, hu⟩
theorem all3 {P : List Value → Prop} {U V W : Value → Prop} (k : ∀ u v w, U u → V v → W w → P [u, v, w]) : ∀ vs, AllV [U, V, W] vs → P vs
  | [u, v, w], e => k u v w e.1 e.2.1 e.2.2.1
  | [], e => e.elim
  | [_], e => e.2.elim
  | [_, _], e => e.2.2.elim
  | _ :: _ :: _ :: _ :: _, e => e.2.2.2.elim
/-- the items of a comprehension over naturals -/
theorem AllN.mapc {p : Nat → Bool} {g : Nat → Nat} {F : Value → Value → Prop} (hF : ∀ n u v, IsN n u → F u v → IsN (g n) v) : ∀ {ns : List Nat} {us vs : List Value}, AllN ns us → Paired F (us.filter fun v => p (valN v)) vs → AllN ((ns.filter p).map g) vs
  | [], [], vs, _, k => by cases k; trivial
  | [], _ :: _, _, e, _ => e.elim
  | _ :: _, [], _, e, _ => e.elim
  | n :: ns, u :: us, vs, e, k => by
    have hu : valN u = n := IsI.valN e.1
    rw [List.filter_cons, hu] at k
    rw [List.filter_cons]
    cases hp : p n with
    | true =>
      rw [hp] at k
      simp only [if_true] at k ⊢
      cases k with
      | cons h1 h2 => exact ⟨hF _ _ _ e.1 h1, AllN.mapc (ns := ns) hF e.2 h2⟩
    | false =>
      rw [hp] at k
      simp only [Bool.false_eq_true, if_false] at k ⊢
      exact AllN.mapc (ns := ns) hF e.2 k
theorem range_filter (cs : List Nat) (q : Nat → Bool) : ((List.range cs.length).filter fun k => q (cs.getD k 0)).map (fun k => cs.getD k 0) = cs.filter q := by
  have e : (List.range cs.length).map (fun k => cs.getD k 0) = cs := by
    refine List.ext_getElem (by simp) fun j h1 h2 => ?_
    rw [List.getElem_map, List.getElem_range, List.getD_eq_getElem?_getD, List.getElem?_eq_getElem h2]
    rfl
  conv => rhs; rw [← e]
  rw [List.filter_map]
  rfl
theorem paired_inv {α β : Type} {F : α → β → Prop} {l : List α} {m : List β} (h : Paired F l m) : (l = [] ∧ m = []) ∨ ∃ a l' b m', l = a :: l' ∧ m = b :: m' ∧ F a b ∧ Paired F l' m' := by
  cases h with
  | nil => exact .inl ⟨rfl, rfl⟩
  | cons h t => exact .inr ⟨_, _, _, _, rfl, rfl, h, t⟩
theorem W.popI {prog : Program} {w : World} {K : Frag} {A : Around} {h₀ : Heap} {L : Addr} {cs : List (Str × Addr)} {m cm : Str → Option Value} {led : Ledger} {C : Value → Ledger → Prop} {l : Addr} {u v : Value} {vs : List Value} (i : Nat) (hu : IsI 0 u) (hi : led[i]? = some (l, PL (v :: vs))) (hz : szs (vs.length + 1)) (k : C v (led.set i (l, PL vs))) :
    TrS (model prog w) A K h₀ L cs m cm led (call (.builtin "list.pop") [.ref l, u] []) C := by
  obtain ⟨t, rfl⟩ := hu
  exact W.pop0 i hi hz k
theorem Paired.append {α β : Type} {F : α → β → Prop} {a c : List α} {b d : List β} (h : Paired F a b) (k : Paired F c d) : Paired F (a ++ c) (b ++ d) := by
  induction h with
  | nil => exact k
  | cons h t ih => exact .cons h ih
end Mine

open PySem PySem.W PyProof.Rows
set_option maxRecDepth 100000
namespace Mine
open PySem PySem.W PySem.Calls PyProof.Rows
/-- a tuple that stands in the heap -/
structure Tp where
  at_ : Addr
  vs : List Value
def tls (ts : List Tp) : Ledger := ts.map fun q => (q.at_, TT q.vs)
def EntIs (e : Ent) (q : Tp) : Prop := ∃ a b c d, q.vs = [a, b, c, d] ∧ IsN e.1 a ∧ IsT e.2.1 b ∧ IsN e.2.2.1 c ∧ IsN e.2.2.2 d
def wls (ws : List (Addr × Value)) : Ledger := ws.map fun q => (q.1, PL [q.2])
def d0 (kind : Nat) : DS := ⟨0, [], kind⟩
structure DueR (cs : List Nat) (kind : Nat) (v : Value) (news : Ledger) (l : Addr) (n : Nat) (ts : List Tp) (vn : Value) : Prop where
  v : v = .ref l
  news : news = (l, PL (ts.map (fun q => Value.ref q.at_) ++ [vn])) :: tls ts
  ents : Paired EntIs (entsD cs (d0 kind) n) ts
  kind : IsN (runD cs (d0 kind) n).kind vn
  n : n ≤ 2001
/-- the state of the loop -/
structure DZ where
  i : Nat
  fin : Bool
  ts : List Tp
  ws : List (Addr × Value)
  vp : Value
  vk : Value
  m : PySem.Str → Option Value
  cm : PySem.Str → Option Value
structure DOk (cs : List Nat) (kind : Nat) (lc lt lw lk lr : Addr) (k : Nat) (z : DZ) : Prop where
  told : z.m (PySem.Str.ofString "told") = some (.ref lt)
  place : z.m (PySem.Str.ofString "place") = some z.vp
  waits : z.m (PySem.Str.ofString "waits") = some (.ref lw)
  ended : z.m (PySem.Str.ofString "ended") = some (.bool z.fin)
  codes : z.cm (PySem.Str.ofString "codes") = some (.ref lc)
  ckind : z.cm (PySem.Str.ofString "kind") = some z.vk
  kinds : z.cm (PySem.Str.ofString "kinds") = some (.ref lk)
  row : z.cm (PySem.Str.ofString "row") = some (.ref lr)
  hp : IsN (runD cs (d0 kind) z.i).place z.vp
  hk : IsN (runD cs (d0 kind) z.i).kind z.vk
  ents : Paired EntIs (entsD cs (d0 kind) z.i) z.ts
  hw : Paired (fun n (q : Addr × Value) => IsN n q.2) (runD cs (d0 kind) z.i).waits z.ws
  len : z.i + k ≤ 1 + 20 * cs.length
  mu : z.fin = false → k = 1 + muD cs (runD cs (d0 kind) z.i)
def dled (lt lw lk lr : Addr) (kvs rvs : List Value) (ts : List Tp) (ws : List (Addr × Value)) : Ledger :=
  (lt, PL (ts.map fun q => Value.ref q.at_)) :: (lw, PL (ws.map fun q => Value.ref q.1)) :: (lk, PL kvs) :: (lr, PL rvs) :: (tls ts.reverse ++ wls ws)
theorem AllN.ai {ns : List Nat} {vs : List Value} (h : AllN ns vs) : AllI (ns.map Int.ofNat) vs := by
  unfold AllI
  rw [List.map_map]
  exact h
theorem AllN.take {ns : List Nat} {vs : List Value} (h : AllN ns vs) (k : Nat) : AllN (ns.take k) (vs.take k) :=
  AllV.of_get (by rw [List.length_take, List.length_take, h.length]) fun j u a x e => by
    rw [List.getElem?_take] at x e
    split at x
    · rename_i hj
      rw [if_pos hj] at e
      obtain ⟨b, hb, hu⟩ := AllV.at h x
      rw [e] at hb; cases hb
      exact hu
    · cases x
theorem pop_perm {lt lw lk lr : Addr} {kvs rvs : List Value} {ts : List Tp} {q : Addr × Value} {ws : List (Addr × Value)} (x y : Addr × (Obj → Prop)) :
    (x :: (y :: dled lt lw lk lr kvs rvs ts (q :: ws)).set 2 (lw, PL (ws.map fun q => Value.ref q.1))).Perm (x :: (q.1, PL [q.2]) :: y :: dled lt lw lk lr kvs rvs ts ws) :=
  (List.perm_middle (l₁ := y :: (lt, PL (ts.map fun q => Value.ref q.at_)) :: (lw, PL (ws.map fun q => Value.ref q.1)) :: (lk, PL kvs) :: (lr, PL rvs) :: tls ts.reverse)).cons _
theorem told_perm {lt lw lk lr : Addr} {kvs rvs : List Value} {ts : List Tp} {ws : List (Addr × Value)} (x y u : Addr × (Obj → Prop)) (t : Addr) (vs : List Value) :
    (((t, TT vs) :: x :: y :: u :: dled lt lw lk lr kvs rvs ts ws).set 4 (lt, PL ((ts.map fun q => Value.ref q.at_) ++ [.ref t]))).Perm (x :: y :: u :: dled lt lw lk lr kvs rvs (ts ++ [⟨t, vs⟩]) ws) := by
  unfold dled
  rw [List.map_append, List.reverse_append]
  exact (List.perm_middle (a := (t, TT vs)) (l₁ := x :: y :: u :: (lt, PL ((ts.map fun q => Value.ref q.at_) ++ [.ref t])) :: (lw, PL (ws.map fun q => Value.ref q.1)) :: (lk, PL kvs) :: (lr, PL rvs) :: [])).symm
theorem ext_perm {lt lw lk lr : Addr} {kvs rvs : List Value} {ts : List Tp} {ws us : List (Addr × Value)} (x y u v : Addr × (Obj → Prop)) :
    (x :: (wls us.reverse ++ (y :: u :: v :: dled lt lw lk lr kvs rvs ts ws))).Perm (x :: y :: u :: v :: (lt, PL (ts.map fun q => Value.ref q.at_)) :: (lw, PL (ws.map fun q => Value.ref q.1)) :: (lk, PL kvs) :: (lr, PL rvs) :: (tls ts.reverse ++ wls (ws ++ us))) := by
  refine List.Perm.cons _ ?_
  refine List.Perm.trans List.perm_append_comm ?_
  have e : wls (ws ++ us) = wls ws ++ wls us := List.map_append
  rw [e, ← List.append_assoc]
  exact List.Perm.append_left (y :: u :: v :: dled lt lw lk lr kvs rvs ts ws) ((List.reverse_perm us).map _)
theorem ret_perm {lt lw lk lr : Addr} {kvs rvs : List Value} {ts : List Tp} {ws : List (Addr × Value)} (x y : Addr × (Obj → Prop)) :
    (x :: y :: dled lt lw lk lr kvs rvs ts ws).Perm ((x :: tls ts) ++ (y :: (lt, PL (ts.map fun q => Value.ref q.at_)) :: (lw, PL (ws.map fun q => Value.ref q.1)) :: (lk, PL kvs) :: (lr, PL rvs) :: wls ws)) := by
  refine List.Perm.cons _ (List.Perm.trans (List.perm_append_comm_assoc (y :: (lt, PL (ts.map fun q => Value.ref q.at_)) :: (lw, PL (ws.map fun q => Value.ref q.1)) :: (lk, PL kvs) :: (lr, PL rvs) :: []) _ _) ?_)
  exact List.Perm.append_right _ ((List.reverse_perm ts).map _)
/-- a word was taken -/
structure WZ where
  t : Addr
  lwd : Addr
  wv : List Value
  vp : Value
  ws : List (Addr × Value)
structure WOk (cs : List Nat) (d : DS) (D : Addr) (wvs : List Value) (lt lw lk lr : Addr) (kvs rvs : List Value) (ts : List Tp) (y : WZ) (v : Value) (led' : Ledger) : Prop where
  v : v = .ref y.t
  led : led' = (y.t, TT [.ref y.lwd, y.vp]) :: (y.lwd, PL y.wv) :: (D, PL wvs) :: dled lt lw lk lr kvs rvs ts y.ws
  word : AllN (wordAt cs d) y.wv
  place : IsN (placeAt cs d) y.vp
  ws : Paired (fun n (q : Addr × Value) => IsN n q.2) d.waits.tail y.ws
section
variable {prog : Program} {w : World} {A : Around}
theorem cn_due {lc : Addr} {cvs : List Value} {cs : List Nat} {vk0 : Value} {kind : Nat} (r : Room A 4) (hh : A.handled = none) (hc : AllN cs cvs) (hk : IsN kind vk0) (hkind : kind < 15) (hcs : ∀ c ∈ cs, c < 55296) (h1 : 1 ≤ cs.length) (hz : cs.length ≤ 100) :
    Cn prog w (KK w) A (.ref 232) [.ref lc, vk0] (fun h => h.IsList lc cvs.toArray) fun h v h' => ∃ news, (∃ l n ts vn, DueR cs kind v news l n ts vn) ∧ AlL (fun g => g = h) news h' := by
  refine Cn.of_body (mu := []) (binds := [(PySem.Str.ofString "codes", .ref lc), (PySem.Str.ofString "kind", vk0)]) r (kk_look (by k_is)) (kk_code (by k_is)) rfl rfl (by decide) rfl (fun _ _ p hp => nomatch hp) (fun _ hp => nomatch hp) (by decide) fun h h₀ L WD hpre hB hL => ?_
  have base : ∀ {g : Heap}, Ext h₀ g → g.IsList lc cvs.toArray := fun k => let ⟨o, ho, r⟩ := hpre; ⟨o, k _ _ (hB _ o (by simp [ads]) ho), r⟩
  have hz' : cs.length ≤ 1000000 := Nat.le_trans hz (by decide)
  refine Ex.unpackN (names := [PySem.Str.ofString "told", PySem.Str.ofString "place", PySem.Str.ofString "waits", PySem.Str.ofString "ended"]) hh (W.tuple (Es.one (W.list Es.nil (Nat.zero_le _) fun lt tv htv => Es.one (W.ev (Ev.nat (n := 0)) fun vp hvp => Es.one (W.list Es.nil (Nat.zero_le _) fun lw wv hwv => Es.one (W.ev (Ev.cbool (b := false)) fun ve hve => Es.done ⟨Nat.le_of_ble_eq_true rfl, fun t => ⟨t, _, rfl, ⟨0, rfl⟩, rfl, Ex.dropW ?_⟩⟩))))))
    (.cons (fun v s Q E h => wpAny_assign_Name h) (.cons (fun v s Q E h => wpAny_assign_Name h) (.cons (fun v s Q E h => wpAny_assign_Name h) (.cons (fun v s Q E h => wpAny_assign_Name h) .nil))))
  refine Ex.unpackN (names := [PySem.Str.ofString "kinds", PySem.Str.ofString "row"]) hh (W.tuple (Es.one (W.al (Tr.callCn0 St.okk (Ev.global St.okk (g_law_kinds w)) (kk_fn (by k_is)) (fun _ _ => trivial) (cn_kinds ((r.deeper _).less (by decide)))) fun lk =>
    Es.one (W.al (Tr.callCn St.okk (Ev.global St.okk (g_law_stretches w)) (Es.cons (Ev.cellS (c := L + 1) rfl rfl) Es.nil) (kk_fn (by k_is)) (fun g S => base S.base) (all1 fun v e => e ▸ cn_stretches ((r.deeper _).less (by decide)) hh hc.ai (by rw [List.length_map]; exact hz))) fun lr => Es.done ⟨Nat.le_of_ble_eq_true rfl, fun t => ⟨t, _, rfl, ⟨0, rfl⟩, rfl, Ex.dropW ?_⟩⟩)))) (.cons (fun v s Q E h => wpAny_assign_Name h) (.cons (fun v s Q E h => wpAny_assign_Name h) .nil))
  refine Ex.openW (Q := PL) (B := fun vs => AllV (((cs.map Int.ofNat).map stch).map fun c => IsStr ⟨#[c]⟩) vs) 0 rfl fun rvs hrv => Ex.openW (Q := PL) (B := fun vs => AllV (kindL.map IsT) vs) 1 rfl fun kvs hkv => ?_
  refine Ex.permW (led' := dled lt lw lk lr kvs rvs [] []) ?_ ?_
  · cases tv with
    | cons _ _ => exact htv.elim
    | nil => cases wv with
      | cons _ _ => exact hwv.elim
      | nil => exact (List.reverse_perm _).symm
  refine Ex.whileV DZ.m DZ.cm (fun z => dled lt lw lk lr kvs rvs z.ts z.ws) (DOk cs kind lc lt lw lk lr) (fun z => !z.fin) (1 + 20 * cs.length) ⟨0, false, [], [], vp, vk0, _, _⟩
    ⟨rfl, rfl, rfl, hve ▸ rfl, rfl, rfl, rfl, rfl, hvp, hk, .nil, .nil, Nat.le_of_eq (Nat.zero_add _), fun _ => rfl⟩ rfl rfl rfl (fun k z H => Tv.not (Tv.plain (Ev.locS H.ended) tr_bool)) (fun k z H hb => ?_) (fun k z H hb => ?_)
  · have Od := okD_run (cs := cs) (d := d0 kind) ⟨Nat.zero_le _, hkind, fun _ h => nomatch h⟩ z.i
    generalize hd : runD cs (d0 kind) z.i = d at Od
    have hp : IsN d.place z.vp := hd ▸ H.hp
    have hkk : IsN d.kind z.vk := hd ▸ H.hk
    have hws : Paired (fun n (q : Addr × Value) => IsN n q.2) d.waits z.ws := hd ▸ H.hw
    have hmu : k = 1 + muD cs d := hd ▸ H.mu (by simpa using hb)
    have hwl : z.ws.length ≤ 2001 := by
      have h2 := waitW_len d.waits
      have h3 := H.len
      have h4 := hws.length
      unfold muD at hmu
      omega
    refine Ex.setW (W.ev (Ev.and (Ev.cmp (Ev.mono (Ev.locS H.place) fun _ e => e ▸ hp) (Ev.callB (Ev.builtin St.okk (g_len w) boot_len (by decide)) (Es.cons (Ev.cellS (c := L + 1) H.codes rfl) Es.nil) (len_okN hc (fun g S => base S.base) hz')) d_eq) fun _ => Ev.one (Ev.eqNil St.okk (r.deeper _).units (Ev.locS H.waits) fun g S => (S.list (i := 1) rfl).isList)) fun ve hve => ?_)
    -- white
    refine Ex.setComp (n := cs.length) (P := fun i v => i < cs.length ∧ IsI ((0 : Int) + (i : Int)) v) (p := fun v => decide (stch ((cs.getD (valN v) 0 : Nat) : Int) ∈ kindL.getD d.kind [])) (F := fun u v => IsN (cs.getD (valN u) 0) v) (cl := [(PySem.Str.ofString "row", L + 4), (PySem.Str.ofString "kinds", L + 3), (PySem.Str.ofString "kind", L + 2), (PySem.Str.ofString "codes", L + 1)]) ?_ hz' rfl fun D us wvs hlen hP hF => ?_
    · refine Tr.mono (Tr.callT (Ev.builtin St.okk (g_range w) boot_range (by decide)) (Es.cons (Ev.callB (Ev.builtin St.okk (g_len w) boot_len (by decide)) (Es.cons (Ev.cellS (c := L + 1) H.codes rfl) Es.nil) (len_okN hc (fun g S => base S.base) hz')) Es.nil) range1_ok) fun xv h₁ al => ?_
      have S := al.back St.okk
      obtain ⟨h1', l, o, rfl, S1, k1, hn1, ho1, t, u, v, rfl⟩ := al
      refine ⟨S, Src.bound (Src.range (a := 0) (b := (cs.length : Int)) (n := cs.length) hh ⟨t, u, v, ho1⟩ (by omega) (by omega) (by omega) (by omega) (by omega)), fun C i u g hP k => one_test ?_, fun C i u g hP _ k => ?_⟩
      · obtain ⟨hlt, hP⟩ := hP
        rw [Int.zero_add] at hP
        rw [IsI.valN hP]
        obtain ⟨u1, hu1, hu1'⟩ := AllV.nth hrv (j := i) (a := stch ((cs.getD i 0 : Nat) : Int)) (by rw [List.getElem?_map, List.getElem?_map, List.getD_eq_getElem?_getD, List.getElem?_eq_getElem hlt]; rfl)
        obtain ⟨u2, hu2, hu2'⟩ := AllV.nth hkv (j := d.kind) (a := kindL.getD d.kind []) (by rw [List.getD_eq_getElem?_getD, List.getElem?_eq_getElem (show d.kind < kindL.length from Od.kind)]; rfl)
        refine Tv.cmp (Ev.mono (Ev.item (k := (i : Int)) ?_ (Ev.mono Ev.own fun _ e => e ▸ hP) (fun g' i => ((S.list (i := 3) rfl).ext (k.trans i.1)).isList) (by omega) (by omega) hu1) fun v e => e ▸ hu1') (Ev.mono (Ev.item (k := (d.kind : Int)) ?_ (Ev.mono (V := IsV z.vk) ?_ fun _ e => e ▸ hkk) (fun g' i => ((S.list (i := 2) rfl).ext (k.trans i.1)).isList) (by omega) (by have := Od.kind; omega) hu2) fun v e => e ▸ hu2') c_inT
        · exact Ev.cellI (c := L + 4) (fun g' i => S.cellE (n := PySem.Str.ofString "row") (v := .ref lr) (k.trans i.1) rfl H.row) rfl
        · exact Ev.cellI (c := L + 3) (fun g' i => S.cellE (n := PySem.Str.ofString "kinds") (v := .ref lk) (k.trans i.1) rfl H.kinds) rfl
        · exact Ev.cellI (c := L + 2) (fun g' i => S.cellE (n := PySem.Str.ofString "kind") (v := z.vk) (k.trans i.1) rfl H.ckind) rfl
      · obtain ⟨hlt, hP⟩ := hP
        rw [Int.zero_add] at hP
        rw [IsI.valN hP]
        refine Ev.itemN ?_ (Ev.mono Ev.own fun _ e => e ▸ hP) hc (fun g' i => base (S.base.trans (k.trans i.1))) hlt hz'
        exact Ev.cellI (c := L + 1) (fun g' i => S.cellE (n := PySem.Str.ofString "codes") (v := .ref lc) (k.trans i.1) rfl H.codes) rfl
    have hwh : AllN (whiteOf cs d.kind) wvs := by
      have hus : AllN (List.range cs.length) us := AllV.of_get (by rw [hlen, List.length_range]) fun j u a x y => by
        have hj := hP j u x
        rw [List.getElem?_range hj.1] at y
        cases y
        rw [Int.zero_add] at hj
        exact hj.2
      have := AllN.mapc (p := fun k => decide (stch ((cs.getD k 0 : Nat) : Int) ∈ kindL.getD d.kind [])) (g := fun k => cs.getD k 0) (fun n u v hn hf => by rw [IsI.valN hn] at hf; exact hf) hus hF
      rw [range_filter cs fun c => decide (stch (c : Int) ∈ kindL.getD d.kind [])] at this
      exact this
    -- word, place
    have hm1 : ∀ {x : PySem.Str} {v v1 v2 : Value}, z.m x = some v → x ≠ PySem.Str.ofString "white" → x ≠ PySem.Str.ofString "ended" → up (up z.m (PySem.Str.ofString "ended") v1) (PySem.Str.ofString "white") v2 x = some v := fun h a b => (up_ne a).trans ((up_ne b).trans h)
    refine Ex.unpackN (names := [PySem.Str.ofString "word", PySem.Str.ofString "place"]) hh (TrS.mono (C := fun v led' => ∃ y : WZ, WOk cs d D wvs lt lw lk lr kvs rvs z.ts y v led') (W.thenPerm (W.ife (Tv.plain (Ev.locS (hm1 H.waits (by decide) (by decide))) (tr_list (vs := z.ws.map fun q => Value.ref q.1) (fun g S => (S.list (i := 2) rfl).isList) ?_)) (fun e => ?_) (fun e => ?_))) ?_) (.cons (fun v s Q E h => wpAny_assign_Name h) (.cons (fun v s Q E h => wpAny_assign_Name h) .nil))
    · show (z.ws.map fun q => Value.ref q.1).length ≤ 1000000
      rw [List.length_map]; omega
    · rcases paired_inv hws with ⟨_, ez⟩ | ⟨c, l, q, ws', ew, ez, hq, hws'⟩
      · rw [ez] at e; exact absurd e (by decide)
      · have hl : ws'.length + 1 = z.ws.length := by rw [ez]; rfl
        refine W.tuple (Es.one (W.lmeth1 (id := "list.pop") 2 (Ev.locS (hm1 H.waits (by decide) (by decide))) rfl F.slot_list_pop rfl (W.ev Ev.int fun u hu => W.popI (v := .ref q.1) (vs := ws'.map fun q => Value.ref q.1) 2 hu (by rw [ez]; rfl) (by show (ws'.map _).length + 1 ≤ 1000000; rw [List.length_map]; omega)
          (Es.one (W.ev (Ev.mono (Ev.locS (hm1 H.place (by decide) (by decide))) fun _ e => e ▸ hp) fun vp hvp => Es.done ⟨Nat.le_of_ble_eq_true rfl, fun t => ⟨_, ?_, ⟨t, q.1, [q.2], vp, ws'⟩, rfl, rfl, ?_, ?_, ?_⟩⟩)))))
        · rw [ez]; exact pop_perm _ _
        · unfold wordAt; rw [ew]; exact ⟨hq, trivial⟩
        · unfold placeAt; rw [ew]; exact hvp
        · rw [ew]; exact hws'
    · rcases paired_inv hws with ⟨ew, ez⟩ | ⟨c, l, q, ws', ew, ez, hq, hws'⟩
      · refine W.als (Q := WordR cs d.place (whiteOf cs d.kind)) (Tr.callCn (pre := fun h => h.IsList lc cvs.toArray ∧ h.IsList D wvs.toArray) St.okk (Ev.global St.okk (g_law_word w)) (Es.cons (Ev.cellS (c := L + 1) H.codes rfl) (Es.cons (Ev.mono (Ev.locS (hm1 H.place (by decide) (by decide))) fun _ e => e ▸ hp) (Es.cons (Ev.locS up_self) Es.nil))) (kk_fn (by k_is)) (fun g S => ⟨base S.base, (S.list (i := 0) rfl).isList⟩) (all3 fun a b c ha hb hc' => ?_)) ?_
        · cases ha
          cases hc'
          exact cn_word ((r.deeper _).less (by decide)) hh hc hwh hb Od.place (Nat.le_trans hz (by decide))
        rintro v news ⟨t, l, vs, vn, e1, e2, h1, h2⟩
        refine ⟨_, e2 ▸ List.Perm.refl _, ⟨t, l, vs, vn, z.ws⟩, e1, rfl, ?_, ?_, ?_⟩
        · unfold wordAt; rw [ew]; exact h1
        · unfold placeAt; rw [ew]; exact h2
        · rw [ew, ez]; exact .nil
      · rw [ez] at e; simp at e
    · rintro v led' ⟨y, Y⟩
      refine ⟨y.t, _, Y.v, ⟨0, by rw [Y.led]; rfl⟩, rfl, Ex.castW Y.led (Ex.dropW ?_)⟩
      have Ow : ∀ c ∈ wordAt cs d, c < 55296 := word_lt Od hcs
      have Lw : (wordAt cs d).length ≤ 100 := Nat.le_trans (word_len h1) hz
      have hwv := Y.word.length
      refine Ex.setW (W.join rfl (W.comp (n := y.wv.length) (P := fun i v => y.wv[i]? = some v) (p := fun _ => true) (F := fun u v => IsStr ⟨#[valN u]⟩ v) (cl := []) ?_ (by omega) rfl fun D2 us2 vs2 hlen2 hP2 hF2 => ⟨D2, vs2, wordAt cs d, rfl, ⟨0, rfl⟩, ?_, by omega, fun ut hut => Ex.dropW ?_⟩))
      · refine Tr.mono (Ev.locS rfl) fun xv g r => ?_
        obtain ⟨rx, S⟩ := r
        cases rx
        refine ⟨S, Src.list hh (S.list (i := 0) rfl).isList, fun C i u g _ _ => no_tests, fun C i u g hP _ k => ?_⟩
        obtain ⟨c, hcw, hcu⟩ := AllV.at Y.word hP
        have hcu : IsN c u := hcu
        rw [IsI.valN hcu]
        exact Ev.mono (Ev.callB (Ev.builtin (IC.okk (S.wdh.ext k)) (g_chr w) boot_chr (by decide)) (Es.cons (Ev.mono Ev.own fun _ e => e ▸ hcu) Es.nil) (chr_ok (n := (c : Int)) (by omega) (by have := Ow c (List.mem_of_getElem? hcw); omega))) fun v hv => by rw [Int.toNat_natCast] at hv; exact hv
      · rw [filter_true] at hF2
        refine AllV.comp (f := fun n => IsN n) (AllV.of_get (by omega) fun j u a x e => ?_) hF2 fun a u v ha hf => by rw [IsI.valN ha] at hf; exact hf
        obtain ⟨b, hb', hbu⟩ := AllV.at Y.word (hP2 j u x)
        rw [e] at hb'; cases hb'
        exact hbu
      -- told
      have hts : z.ts.length ≤ 2001 := by
        have := H.ents.length
        have e : (entsD cs (d0 kind) z.i).length = z.i := by unfold entsD; simp
        have := H.len
        omega
      refine Ex.appendW 2 4 (Ev.locS H.told) rfl (by show (z.ts.map _).length ≤ 1000000; rw [List.length_map]; omega) (W.tuple (Es.one (W.ev (Ev.mono (Ev.cellS (c := L + 2) H.ckind rfl) fun _ e => e ▸ hkk) fun va hva => Es.one (W.ev (Ev.mono (V := IsV ut) (Ev.locS up_self) fun _ e => e ▸ hut) fun vb hvb =>
        Es.one (W.bin (W.ev Ev.nat fun v1 hv1 => W.meth F.slot_list_count rfl (W.slice (Ev.cellS (c := L + 1) H.codes rfl) (fun g S => base S.base) (by rw [← hc.length] at hz'; exact hz') (Ev.mono (V := IsV y.vp) (Ev.locS rfl) fun _ e => e ▸ Y.place) fun D3 => ⟨D3, _, rfl, ⟨0, rfl⟩, W.ev Ev.nat fun vu hvu => W.count 0 rfl (AllN.take hc (placeAt cs d)) hvu fun vx hvx => W.q (n_add _ _ hv1 hvx) fun vc hvc =>
          Es.one (W.ev (Ev.bin (Ev.callB (Ev.builtin St.okk (g_len w) boot_len (by decide)) (Es.cons (Ev.cellS (c := L + 1) H.codes rfl) Es.nil) (len_okN hc (fun g S => base S.base) hz')) (Ev.mono (V := IsV y.vp) (Ev.locS rfl) fun _ e => e ▸ Y.place) (n_sub ?_)) fun vd hvd => Es.done ⟨Nat.le_of_ble_eq_true rfl, fun t2 => ⟨rfl, ?_⟩⟩)⟩)))))))
      · exact (okD_step Od).place
      refine Ex.permW (told_perm (D3, PL (cvs.take (placeAt cs d))) (y.lwd, PL y.wv) (D, PL wvs) t2 [va, vb, vc, vd]) (Ex.dropW ?_)
      refine Ex.ifW (X := fun led' => ∃ ws6, Paired (fun n (q : Addr × Value) => IsN n q.2) (d.waits.tail ++ moreOf (wordAt cs d)) ws6 ∧ led' = (y.lwd, PL y.wv) :: (D, PL wvs) :: dled lt lw lk lr kvs rvs (z.ts ++ [⟨t2, [va, vb, vc, vd]⟩]) ws6)
        (b := decide ((wordAt cs d).length = 1) && (!decide (shown ((wordAt cs d).getD 0 0) = wordAt cs d) && true))
        (Tv.and (Tv.cmp (Ev.callB (Ev.builtin St.okk (g_len w) boot_len (by decide)) (Es.cons (Ev.locS rfl) Es.nil) (len_okN Y.word (fun g S => (S.list (i := 0) rfl).isList) (by omega))) Ev.nat d_eq) fun e1 => Tv.and (Tv.cmpS (W.al (Tr.callCn (pre := fun _ => True) St.okk (Ev.global St.okk (g_law_shown w)) (Es.cons (Ev.itemN (k := 0) (Ev.locS rfl) Ev.nat Y.word (fun g S => (S.list (i := 0) rfl).isList) (by rw [of_decide_eq_true e1]; decide) (by omega)) Es.nil) (kk_fn (by k_is)) (fun _ _ => trivial) (all1 fun v hv => cn_shown ((r.deeper _).less (by decide)) hv))
          fun l => W.openW (Q := PL) (B := AllN (shown ((wordAt cs d).getD 0 0))) 0 rfl fun svs hsv => W.ev (Ev.locS rfl) fun b hb => ⟨fun g S => S.drop1, fun g S => ?_⟩)) fun _ => Tv.and_nil) (fun e => ?_) (fun e => Ex.nil fun g S => ⟨_, ⟨y.ws, ?_, rfl⟩, S⟩) ?_
      · cases hb
        exact ne_all (r.deeper _).units (S.list (i := 0) rfl).isList (S.list (i := 1) rfl).isList hsv Y.word fun a b v u ha hb s hs => int_same a b v u ha hb s hs
      · rw [Bool.and_true] at e
        have e1 : (wordAt cs d).length = 1 := by rw [Bool.and_eq_true] at e; exact of_decide_eq_true e.1
        have hmore : moreOf (wordAt cs d) = shown ((wordAt cs d).getD 0 0) := by unfold moreOf; rw [if_pos e]
        have hl0 : 0 < (wordAt cs d).length := by omega
        generalize hsh : shown ((wordAt cs d).getD 0 0) = sh at hmore
        refine Ex.exprW (W.lmeth1 (id := "list.extend") 3 (Ev.locS H.waits) rfl F.slot_list_extend rfl (W.eff (cl := []) rfl (W.alX (P := NL sh) (Tr.callCn (pre := fun _ => True) (R := fun h v h' => Al (fun g => g = h) (NL sh) v h') St.okk (Ev.global St.okk (g_law_shown w)) (Es.cons (Ev.itemN (k := 0) (Ev.locS rfl) Ev.nat Y.word (fun g S => (S.list (i := 0) rfl).isList) hl0 (by omega)) Es.nil) (kk_fn (by k_is)) (fun _ _ => trivial) (all1 fun v hv => hsh ▸ cn_shown ((r.deeper _).less (by decide)) hv)) fun l o ho => ?_)))
        obtain ⟨svs, hso, hsv⟩ := ho
        have hsl : svs.length ≤ 3 := by rw [hsv.length, ← hsh]; exact (shown_len _).2
        refine ⟨svs.length, fun i v => svs[i]? = some v, [(l, o)], fun i ys led' => ∃ ws : List (Addr × Value), ys = ws.map (fun q => Value.ref q.1) ∧ Paired (fun n (q : Addr × Value) => IsN n q.2) (sh.take i) ws ∧ led' = wls ws.reverse ++ ((l, fun x => x = o) :: (y.lwd, PL y.wv) :: (D, PL wvs) :: dled lt lw lk lr kvs rvs (z.ts ++ [⟨t2, [va, vb, vc, vd]⟩]) y.ws),
          by omega, ⟨[], rfl, .nil, rfl⟩, fun g S => ?_, ?_, ?_, ?_⟩
        · obtain ⟨o', ho', rfl⟩ := S.has (i := 0) rfl
          obtain ⟨n, rfl⟩ := hso
          exact Src1.list hh ⟨_, ho', rfl, _, rfl⟩
        · rintro i ys led' ⟨ws, _, _, rfl⟩ p hp
          rw [List.mem_singleton.mp hp]
          exact List.mem_append_right _ (List.mem_cons_self ..)
        · rintro C D' It i u ys led' oI hP hi ⟨ws, rfl, e2, rfl⟩
          obtain ⟨c, hcs', hcu⟩ := AllV.at hsv hP
          refine W.thenPerm (W.list (Es.cons Ev.ownS Es.nil) (Nat.le_of_ble_eq_true rfl) fun l2 xs hxs => ⟨_, (List.perm_middle (l₁ := [_, _, _])).symm, _, rfl, ws ++ [(l2, u)], by rw [List.map_append]; rfl, ?_, ?_⟩)
          · rw [List.take_succ, hcs']
            exact e2.snoc hcu
          · rw [List.reverse_append]
            match xs, hxs with
            | [v], h => cases h.1; rfl
        · rintro D' ys led' ⟨ws, rfl, e2, rfl⟩
          rw [List.take_of_length_le (by rw [hsv.length]; exact Nat.le_refl _)] at e2
          have hwsl := e2.length
          have hyl : y.ws.length ≤ 2001 := by
            have := Y.ws.length
            have := hws.length
            rw [List.length_tail] at *
            omega
          refine W.perm (ext_perm _ _ _ _) (W.extend (vs := y.ws.map fun q => Value.ref q.1) (us := ws.map fun q => Value.ref q.1) 5 0 rfl rfl (by show (y.ws.map _).length + (ws.map _).length ≤ 1000000; rw [List.length_map, List.length_map, ← hwsl, ← hsv.length]; omega) ⟨rfl, Ex.nil fun g S => ⟨_, ⟨y.ws ++ ws, ?_, rfl⟩, ?_⟩⟩)
          · rw [hmore]; exact Paired.append Y.ws e2
          · have := S.drop1.drop1
            unfold dled
            rw [List.map_append (l₁ := y.ws)]
            exact this
      · rw [Bool.and_true] at e
        unfold moreOf
        rw [if_neg (by rw [e]; decide), List.append_nil]
        exact Y.ws
      rintro led' ⟨ws6, hws6, rfl⟩
      have hend : (decide (d.place = cs.length) && decide (z.ws.map (fun q => Value.ref q.1) = [])) = endD cs d := by
        unfold endD
        congr 1
        rcases paired_inv hws with ⟨e1, e2⟩ | ⟨_, _, _, _, e1, e2, _⟩ <;> rw [e1, e2] <;> simp
      rw [hend] at hve
      refine Ex.setCW (c := L + 2) rfl (W.ev (V := IsN ((d.kind + 1 + turnOf (wordAt cs d)) % 15)) (Ev.bin (Ev.bin (Ev.bin (Ev.mono (V := IsV z.vk) (Ev.cellS (c := L + 2) H.ckind rfl) fun _ e => e ▸ hkk) Ev.nat n_add) (Ev.ife (V := IsN (turnOf (wordAt cs d))) (Tv.cmp (Ev.callB (Ev.builtin St.okk (g_len w) boot_len (by decide)) (Es.cons (Ev.locS rfl) Es.nil) (len_okN Y.word (fun g S => (S.list (i := 0) rfl).isList) (by omega))) Ev.nat d_eq) (fun e => ?_) (fun e => ?_)) n_add) Ev.nat (n_mod (by decide))) fun vk' hvk' => Ex.dropW (Ex.dropW (Ex.again (fun m cm => ⟨z.i + 1, endD cs d, z.ts ++ [⟨t2, [va, vb, vc, vd]⟩], ws6, y.vp, vk', m, cm⟩) (if endD cs d = true then 0 else 1 + muD cs (stepD cs d)) ?_ ?_ rfl rfl rfl)))
      · unfold turnOf
        rw [if_pos e]
        exact Ev.bin (Ev.itemN (k := 0) (Ev.locS rfl) Ev.nat Y.word (fun g S => (S.list (i := 0) rfl).isList) (by rw [of_decide_eq_true e]; decide) (by omega)) Ev.nat (n_mod (by decide))
      · unfold turnOf
        rw [if_neg (by rw [e]; decide)]
        exact Ev.bin Ev.nat (Ev.bin (Ev.callB (Ev.builtin St.okk (g_sum w) boot_sum (by decide)) (Es.cons (Ev.locS rfl) Es.nil) (sum_okN St.okk hh Y.word (fun g S => (S.list (i := 0) rfl).isList) (by omega))) Ev.nat (n_mod (by decide))) n_add
      · rw [hmu]
        split
        · omega
        · rename_i hne
          have := mu_step Od (by simpa using hne)
          omega
      · refine ⟨H.told, rfl, H.waits, hve ▸ rfl, H.codes, rfl, H.kinds, H.row, ?_, ?_, ?_, ?_, ?_, fun (hf : endD cs d = false) => ?_⟩
        · show IsN (stepD cs (runD cs (d0 kind) z.i)).place y.vp
          rw [hd]; exact Y.place
        · show IsN (stepD cs (runD cs (d0 kind) z.i)).kind vk'
          rw [hd]; exact hvk'
        · rw [entsD_succ, hd]
          exact H.ents.snoc ⟨va, vb, vc, vd, rfl, hva, hvb, hvc, hvd⟩
        · show Paired _ (stepD cs (runD cs (d0 kind) z.i)).waits ws6
          rw [hd]; exact hws6
        · have h5 := H.len
          have : (if endD cs d = true then 0 else 1 + muD cs (stepD cs d)) < k := by
            rw [hmu]
            split
            · omega
            · rename_i hne
              have := mu_step Od (by simpa using hne)
              omega
          show z.i + 1 + (if endD cs d = true then 0 else 1 + muD cs (stepD cs d)) ≤ _
          omega
        · show (if endD cs d = true then 0 else 1 + muD cs (stepD cs d)) = 1 + muD cs (stepD cs (runD cs (d0 kind) z.i))
          rw [hd, if_neg (by rw [hf]; decide)]
  · have hts : z.ts.length ≤ 2001 := by
      have := H.ents.length
      have e : (entsD cs (d0 kind) z.i).length = z.i := by unfold entsD; simp
      have := H.len
      omega
    refine Ex.retW (W.bin (W.ev (Ev.locS H.told) fun v1 hv1 => W.list (Es.cons (Ev.mono (V := IsV z.vk) (Ev.cellS (c := L + 2) H.ckind rfl) fun _ e => e ▸ H.hk) Es.nil) (Nat.le_of_ble_eq_true rfl) fun l2 us hus => ?_))
    cases hv1
    refine W.cat (vs := z.ts.map fun q => Value.ref q.at_) 1 0 rfl rfl (by show (z.ts.map _).length + us.length ≤ 1000000; rw [List.length_map, AllV.length hus]; show z.ts.length + 1 ≤ 1000000; omega) fun l h' S => ⟨_, .inl rfl, ?_⟩
    match us, hus with
    | [vn], hvn => exact ⟨_, ⟨l, z.i, z.ts, vn, rfl, rfl, H.ents, hvn.1, by have := H.len; omega⟩, ((S.perm (ret_perm _ _)).rets hB).left⟩
end
end Mine

open PySem PySem.W PyProof.Rows
set_option maxRecDepth 100000
namespace Mine
open PySem PySem.W PySem.Calls PyProof.Rows
/-! instances of the class at 52 -/
theorem i_dict (w : World) : hasDictIn (KK w) 52 = true := by kernel_rfl
theorem i_over (w : World) : plainOver (KK w) 52 = true := by kernel_rfl
theorem i_makes (w : World) : makesIn (KK w) 52 = true := by kernel_rfl
theorem i_set (w : World) : findIn (KK w) (.ref 52) (PySem.Str.ofString "__setattr__") = some (some (.builtin "object.__setattr__")) := by kernel_rfl

/-- the attributes of an object of the class -/
def AttrD (f : Str → Option Value) (k : Nat) (o : Obj) : Prop := ∃ es n, o = W.dictOf es n ∧ (∀ x, getL x es = some (f x)) ∧ es.length ≤ k
theorem isStr_same {name : Str} {t : Tok} : (Value.str name t).isStr name = true := by simp [Value.isStr]
theorem isStr_ne {name x : Str} {t : Tok} (h : x ≠ name) : (Value.str name t).isStr x = false := by
  simp only [Value.isStr]
  exact beq_false_of_ne (Ne.symm h)
theorem isStr_eq {v : Value} {x y : Str} (h : v.isStr x = true) (k : v.isStr y = true) : x = y := by
  cases v <;> simp [Value.isStr] at h k
  rw [← h, ← k]
theorem refKey_str {e : DictEntry} {x : Str} (h : e.key.isStr x = true) : e.refKey = false := by
  unfold DictEntry.refKey
  cases hk : e.key <;> rw [hk] at h <;> simp [Value.isStr] at h ⊢
theorem refKey_key {e e' : DictEntry} (h : e.key = e'.key) : e.refKey = e'.refKey := by unfold DictEntry.refKey; rw [h]
theorem any_putL {name : Str} {hsh : Int} {t : Tok} {v : Value} : ∀ es : List DictEntry, (putL name hsh (.str name t) v es).any (·.refKey) = es.any (·.refKey)
  | [] => by
    have : (DictEntry.mk hsh (.str name t) v).refKey = false := refKey_str isStr_same
    simp [putL, this]
  | e :: r => by
    unfold putL
    split
    · rename_i h
      rw [List.any_cons, List.any_cons, refKey_key (e := ⟨e.hash, e.key, v⟩) (e' := e) rfl]
    · rw [List.any_cons, List.any_cons, any_putL r]
theorem find_putL {name x : Str} {hsh : Int} {t : Tok} {v : Value} : ∀ es : List DictEntry, ((putL name hsh (.str name t) v es).find? (·.key.isStr x)).map (·.val) = if x = name then some v else (es.find? (·.key.isStr x)).map (·.val)
  | [] => by
    unfold putL
    rw [List.find?_cons]
    by_cases h : x = name
    · subst h; rw [isStr_same, if_pos rfl]; rfl
    · rw [isStr_ne h, if_neg h]; first | rfl | done
  | e :: r => by
    unfold putL
    split
    · rename_i hk
      rw [List.find?_cons, List.find?_cons]
      by_cases h : x = name
      · subst h
        rw [if_pos rfl, hk]
        rfl
      · rw [if_neg h]
        have : e.key.isStr x = false := by
          cases q : e.key.isStr x with
          | false => rfl
          | true => exact absurd (isStr_eq q hk) h
        rw [this]
    · rename_i hk
      rw [List.find?_cons, List.find?_cons]
      cases q : e.key.isStr x with
      | true =>
        rw [if_neg (fun (h : x = name) => hk (h ▸ q))]
      | false => exact find_putL r
theorem getL_find {x : Str} {es : List DictEntry} {r : Option Value} (h : getL x es = some r) : r = (es.find? (·.key.isStr x)).map (·.val) ∧ (r = none → es.any (·.refKey) = false) := by
  unfold getL at h
  split at h
  · rename_i e he
    rw [he]
    cases h
    exact ⟨rfl, fun q => nomatch q⟩
  · rename_i he
    split at h
    · cases h
    · rename_i ha
      cases h
      rw [he]
      exact ⟨rfl, fun _ => by simpa using ha⟩
theorem AttrD.put {f : Str → Option Value} {es : List DictEntry} {name : Str} {hsh : Int} {t : Tok} {v : Value} (h : ∀ x, getL x es = some (f x)) (y : Str) (hy : f y = none) : ∀ x, getL x (putL name hsh (.str name t) v es) = some (if x = name then some v else f x) := fun x => by
  have hr := (getL_find (h y)).2 hy
  have h1 := find_putL (name := name) (x := x) (hsh := hsh) (t := t) (v := v) es
  rw [← (getL_find (h x)).1] at h1
  unfold getL
  split
  · rename_i e he
    rw [he] at h1
    rw [← h1]
    rfl
  · rename_i he
    rw [he] at h1
    rw [any_putL, hr, ← h1]
    rfl
theorem putL_len {name : Str} {hsh : Int} {key v : Value} : ∀ es : List DictEntry, (putL name hsh key v es).length ≤ es.length + 1 ∧ (∀ e ∈ es, e.key.isStr name = true → (putL name hsh key v es).length = es.length)
  | [] => ⟨Nat.le_refl _, fun _ h => nomatch h⟩
  | e :: r => by
    unfold putL
    split
    · exact ⟨Nat.le_succ _, fun _ _ _ => rfl⟩
    · rename_i hk
      have ih := putL_len (name := name) (hsh := hsh) (key := key) (v := v) r
      refine ⟨Nat.succ_le_succ ih.1, fun e' he hn => ?_⟩
      rcases List.mem_cons.mp he with rfl | he
      · exact absurd hn hk
      · exact congrArg (· + 1) (ih.2 e' he hn)
end Mine

open PySem PySem.W PyProof.Rows
set_option maxRecDepth 100000
namespace Mine
open PySem PySem.W PySem.Calls PyProof.Rows
section
variable {K : Frag} {h₀ : Heap} {L : Addr} {cs : List (Str × Addr)} {m cm : Str → Option Value} {led : Ledger}
/-- the ledger and the cells as the library's list of new objects, one of them ahead -/
theorem St.newsOf {h : Heap} {i : Nat} {a : Addr} {P : Obj → Prop} {o : Obj} (S : St K h₀ L cs m cm led h) (hi : led[i]? = some (a, P)) (ho : h.get? a = some o) :
    ∃ rest : List (Addr × Obj), News h₀ L h ((a, o) :: rest) ∧ (∀ p ∈ rest, p.1 ≠ a) ∧ ∀ h' o' (P' : Obj → Prop), Fr h₀ L h' m → News h₀ L h' ((a, o') :: rest) → P' o' → St K h₀ L cs m cm (led.set i (a, P')) h' := by
  have hm : (a, P) ∈ led := List.mem_of_getElem? hi
  obtain ⟨_, haL, ha0, hac⟩ := S.ld _ hm
  refine ⟨((ads led).filter (· != a) ++ cs.map (·.2)).map fun b => (b, (h.get? b).getD default), ?_, ?_, ?_⟩
  · intro p hp
    rcases List.mem_cons.mp hp with rfl | hp
    · exact ⟨ho, haL, ha0⟩
    · obtain ⟨b, hb, rfl⟩ := List.mem_map.mp hp
      rcases List.mem_append.mp hb with hb | hb
      · obtain ⟨q, hq, rfl⟩ := List.mem_map.mp (List.mem_filter.mp hb).1
        obtain ⟨⟨o', ho', _⟩, h1, h2, _⟩ := S.ld q hq
        exact ⟨by rw [ho']; rfl, h1, h2⟩
      · obtain ⟨c, hc, rfl⟩ := List.mem_map.mp hb
        have hL := S.cl.above c.1 c.2 hc
        obtain ⟨oc, hoc, _⟩ := S.cl.cell c.1 c.2 (lookup_of_mem_nodup S.nn hc)
        refine ⟨by rw [hoc]; rfl, Ne.symm (Nat.ne_of_lt hL), ?_⟩
        cases q : h₀.get? c.2 with
        | none => rfl
        | some o' => exact absurd (Nat.lt_of_lt_of_le (Heap.lt_size q) S.fr.above) (Nat.not_lt.mpr (Nat.le_of_lt hL))
  · intro p hp
    obtain ⟨b, hb, rfl⟩ := List.mem_map.mp hp
    rcases List.mem_append.mp hb with hb | hb
    · simpa using (List.mem_filter.mp hb).2
    · obtain ⟨c, hc, rfl⟩ := List.mem_map.mp hb
      exact fun e => hac c hc e.symm
  · intro h' o' P' F' N' hP
    have keep : ∀ b, b ∈ (ads led).filter (· != a) ++ cs.map (·.2) → ∀ x, h.get? b = some x → h'.get? b = some x := fun b hb x hx => by
      have := (N' (b, (h.get? b).getD default) (List.mem_cons_of_mem _ (List.mem_map.mpr ⟨b, hb, rfl⟩))).1
      rw [hx] at this
      exact this
    refine ⟨F', ⟨fun n c e => ?_, S.cl.apart, S.cl.above⟩, S.wd, fun p hp => ?_, by rw [ads_set hi]; exact S.nd, S.nn⟩
    · obtain ⟨oc, hoc, r⟩ := S.cl.cell n c e
      exact ⟨oc, keep c (List.mem_append_right _ (List.mem_map.mpr ⟨(n, c), mem_of_lookup e, rfl⟩)) _ hoc, r⟩
    · obtain ⟨j, hj, e⟩ := List.getElem_of_mem hp
      have e' : (led.set i (a, P'))[j]? = some p := by rw [← e]; exact List.getElem?_eq_getElem hj
      rw [List.getElem?_set] at e'
      split at e'
      · split at e'
        · cases e'
          exact ⟨⟨o', (N' _ (List.mem_cons_self ..)).1, hP⟩, haL, ha0, hac⟩
        · cases e'
      · rename_i hij
        have hpl := List.mem_of_getElem? e'
        obtain ⟨⟨x, hx, hPx⟩, r⟩ := S.ld p hpl
        refine ⟨⟨x, keep p.1 (List.mem_append_left _ (List.mem_filter.mpr ⟨List.mem_map.mpr ⟨p, hpl, rfl⟩, ?_⟩)) x hx, hPx⟩, r⟩
        have := S.ne hi (show led[j]? = some (p.1, p.2) from e') hij
        simpa using fun z => this z.symm
end
end Mine

open PySem PySem.W PyProof.Rows
set_option maxRecDepth 100000
namespace Mine
open PySem PySem.W PySem.Calls PyProof.Rows
/-- an attribute that the class leaves to its objects -/
structure OwnAttr (K : Frag) (name : Str) : Prop where
  find : findIn K (.ref 52) name = some none
  get : plainGet K 52 name = true
  taker : takerIn K 52 name = some none
theorem a_lineno (w : World) : OwnAttr (KK w) (PySem.Str.ofString "lineno") := ⟨by kernel_rfl, by kernel_rfl, by kernel_rfl⟩
theorem a_instream (w : World) : OwnAttr (KK w) (PySem.Str.ofString "instream") := ⟨by kernel_rfl, by kernel_rfl, by kernel_rfl⟩
theorem a_whitespace (w : World) : OwnAttr (KK w) (PySem.Str.ofString "whitespace") := ⟨by kernel_rfl, by kernel_rfl, by kernel_rfl⟩
theorem a_pushback (w : World) : OwnAttr (KK w) (PySem.Str.ofString "pushback") := ⟨by kernel_rfl, by kernel_rfl, by kernel_rfl⟩
section
variable {prog : Program} {w : World} {A : Around} {env : Env} {h₀ : Heap} {L : Addr} {cs : List (Str × Addr)} {m cm : Str → Option Value} {led : Ledger} {C : Value → Ledger → Prop}
theorem St.inst {h : Heap} {x dx : Addr} {f : Str → Option Value} {k i j : Nat} (S : St (KK w) h₀ L cs m cm led h) (hi : led[i]? = some (x, fun o => o = instObj 52 dx)) (hj : led[j]? = some (dx, AttrD f k)) :
    ∃ es n, InstAt h x (instObj 52 dx) 52 (some (W.dictOf es n)) ∧ h.get? dx = some (W.dictOf es n) ∧ (∀ y, getL y es = some (f y)) ∧ es.length ≤ k := by
  obtain ⟨o, ho, rfl⟩ := S.has hi
  obtain ⟨o', ho', es, n, rfl, hf, hk⟩ := S.has hj
  exact ⟨es, n, ⟨ho, rfl, rfl, ho'⟩, ho', hf, hk⟩
theorem Ev.attr {e : Expr} {name : Str} {pos : Pos} {x dx : Addr} {f : Str → Option Value} {k : Nat} {v : Value} (i j : Nat) (he : Ev (model prog w) A (St (KK w) h₀ L cs m cm led) env e (IsR x)) (hi : led[i]? = some (x, fun o => o = instObj 52 dx)) (hj : led[j]? = some (dx, AttrD f k))
    (hv : f name = some v) (hd : handedIn v = true) (ha : OwnAttr (KK w) name)
    (hn : eval (.Attribute e name pos) env = (do
      let o ← eval e env
      standAt pos.atName
      let r ← holding [o] (getAttr o name true)
      letTemporaryGo e o r
      pure r) := by with_unfolding_all rfl) : Ev (model prog w) A (St (KK w) h₀ L cs m cm led) env (.Attribute e name pos) (IsV v) := fun h S => Run.mk fun s Q E hs q => by
  refine Attribute_any_ (he := hn) ((he h S).bindK hs fun ov h1 k1 r1 => ?_)
  obtain ⟨ro, S1⟩ := r1
  cases ro
  obtain ⟨es, n, I, _, hf, _⟩ := S1.inst hi hj
  exact get_own (attr := none) S1.fr S1.wd.1 I ha.get (i_dict w) ha.find rfl ((hf name).trans (congrArg some hv)) hd (q _ h1 _ ⟨rfl, S1⟩)
/-- a store into an attribute -/
theorem set_attr {name : Str} {x dx : Addr} {f : Str → Option Value} {k : Nat} {v : Value} (i j : Nat) (hi : led[i]? = some (x, fun o => o = instObj 52 dx)) (hj : led[j]? = some (dx, AttrD f k)) (ha : OwnAttr (KK w) name) (hy : ∃ y, f y = none) (hk : k < 900) :
    Tr (model prog w) A (St (KK w) h₀ L cs m cm led) (setAttr (.ref x) name v) fun _ h' => St (KK w) h₀ L cs m cm (led.set j (dx, AttrD (fun y => if y = name then some v else f y) (if f name = none then k + 1 else k))) h' := fun h S => Run.mk fun s Q E hs q => by
  subst hs
  obtain ⟨es, n, I, hdx, hf, hlen⟩ := S.inst hi hj
  obtain ⟨rest, N, hne, back⟩ := S.newsOf hj hdx
  obtain ⟨y, hy⟩ := hy
  have hl := putL_len (name := name) (hsh := PyData.keyHash w.params name) (key := .str name (s.toks + 1)) (v := v) es
  refine set_dict (n' := putN name es n) (es' := putL name (PyData.keyHash w.params name) (.str name (s.toks + 1)) v es) S.fr S.wd.1 N I rfl (i_set w) (i_over w) ha.taker (i_dict w) (by rw [hf name]; rfl) rfl (.head hne) (by omega) fun h' F' N' => q () h' _ (back h' _ _ F' N' ⟨_, _, rfl, AttrD.put hf y hy, ?_⟩)
  split
  · omega
  · rename_i hn
    cases hfn : f name with
    | none => exact absurd hfn hn
    | some u =>
      have := (getL_find ((hf name).trans (congrArg some hfn))).1
      cases hfd : es.find? (·.key.isStr name) with
      | none => rw [hfd] at this; cases this
      | some e =>
        have h1 : e.key.isStr name = true := by simpa using List.find?_some hfd
        rw [hl.2 e (List.mem_of_find?_eq_some hfd) h1]; exact hlen
theorem Ex.attrW {e o : Expr} {name : Str} {pos' pos : Pos} {rest : List Stmt} {F : Flow → Heap → Prop} (hx : TrS (model prog w) A (KK w) h₀ L cs m cm led (eval e env) fun v led1 => ∃ x dx f k i j, Ev (model prog w) A (St (KK w) h₀ L cs m cm led1) env o (IsR x) ∧ (led1 : Ledger)[(i : Nat)]? = some (x, fun o => o = instObj 52 dx) ∧ led1[(j : Nat)]? = some (dx, AttrD f k) ∧ OwnAttr (KK w) name ∧ (∃ y, f y = none) ∧ k < 900 ∧
      Ex (model prog w) A (St (KK w) h₀ L cs m cm (led1.set j (dx, AttrD (fun y => if y = name then some v else f y) (if f name = none then k + 1 else k)))) env rest F)
    (hs : swapsWith e (some (.Attribute o name pos')) pos.line env = pure false := by rfl) : Ex (model prog w) A (St (KK w) h₀ L cs m cm led) env (.Assign [.Attribute o name pos'] e pos :: rest) F := fun h hI => Run.mk fun s Q E hs' q => by
  refine wpAny_execs_cons (plainObj_wpAny_Assign_Attribute (hs := hs) ((hx h hI).bindK hs' fun v h1 k1 r1 => ?_))
  obtain ⟨led1, ⟨x, dx, f, k, i, j, ho, hi, hj, ha, hy, hk, kx⟩, S⟩ := r1
  refine (ho h1 S).bindK rfl fun ov h2 k2 r2 => ?_
  obtain ⟨ro, S2⟩ := r2
  cases ro
  refine (set_attr i j hi hj ha hy hk h2 S2).bindK rfl fun _ h3 k3 S3 => ?_
  exact (kx h3 S3).bindK rfl q
end
end Mine

open PySem PySem.W PyProof.Rows
set_option maxRecDepth 100000
namespace Mine
open PySem PySem.W PySem.Calls PyProof.Rows
/-- what a call that may change the objects of mu leaves: they are told by mu', and there are new ones -/
structure Mut (mu mu' news : Ledger) (h h' : Heap) : Prop where
  ext : ExtB (ads mu) h h'
  same : ads mu' = ads mu
  mu' : ∀ p ∈ mu', ∃ o, h'.get? p.1 = some o ∧ p.2 o
  new : ∀ p ∈ news, h.get? p.1 = none ∧ ∃ o, h'.get? p.1 = some o ∧ p.2 o
  nd : (ads news).Nodup
section
variable {K : Frag} {h₀ : Heap} {L : Addr} {cs : List (Str × Addr)} {m cm : Str → Option Value} {led : Ledger}
theorem St.mut {h h' : Heap} {mu mu' news : Ledger} (S : St K h₀ L cs m cm (mu ++ led) h) (M : Mut mu mu' news h h') : St K h₀ L cs m cm (news ++ (mu' ++ led)) h' := by
  have hsub : ∀ a ∈ ads mu, a ∈ ads (mu ++ led) := fun a ha => by unfold ads at *; rw [List.map_append]; exact List.mem_append_left _ ha
  have nd' : (ads (mu' ++ led)).Nodup := by
    have := S.nd
    unfold ads at *
    rw [List.map_append] at *
    rw [show mu'.map (·.1) = mu.map (·.1) from M.same]
    exact this
  have S1 : St K h₀ L cs m cm (mu' ++ led) h' := by
    refine S.extB M.ext hsub (fun p hp => ?_) nd'
    rcases List.mem_append.mp hp with hp | hp
    · exact ⟨hsub _ (M.same ▸ List.mem_map.mpr ⟨p, hp, rfl⟩), M.mu' p hp⟩
    · obtain ⟨⟨o, ho, hP⟩, _⟩ := S.ld p (List.mem_append_right _ hp)
      refine ⟨List.mem_map.mpr ⟨p, List.mem_append_right _ hp, rfl⟩, o, M.ext _ _ (fun z => ?_) ho, hP⟩
      have nd := S.nd
      unfold ads at nd z
      rw [List.map_append] at nd
      exact (List.nodup_append.mp nd).2.2 _ z _ (List.mem_map.mpr ⟨p, hp, rfl⟩) rfl
  -- the new ones
  have fresh : ∀ p ∈ news, p.1 ∉ ads (mu' ++ led) ∧ p.1 ≠ L ∧ h₀.get? p.1 = none ∧ ∀ x ∈ cs, p.1 ≠ x.2 := fun p hp => by
    have hn := (M.new p hp).1
    refine ⟨fun z => ?_, fun e => ?_, ?_, fun x hx e => ?_⟩
    · have z : p.1 ∈ ads (mu ++ led) := by
        unfold ads at *
        rw [List.map_append] at *
        rw [show mu'.map (·.1) = mu.map (·.1) from M.same] at z
        exact z
      obtain ⟨q, hq, e⟩ := List.mem_map.mp z
      obtain ⟨⟨o, ho, _⟩, _⟩ := S.ld q hq
      rw [e, hn] at ho; cases ho
    · obtain ⟨oL, _, _, hL, _⟩ := S.fr.ns
      rw [e, hL] at hn; cases hn
    · cases q : h₀.get? p.1 with
      | none => rfl
      | some o' => have := S.fr.keep _ _ q; rw [hn] at this; cases this
    · obtain ⟨oc, hc, _⟩ := S.cl.cell x.1 x.2 (lookup_of_mem_nodup S.nn hx)
      rw [e, hc] at hn; cases hn
  refine ⟨S1.fr, S1.cl, S1.wd, fun p hp => ?_, ?_, S1.nn⟩
  · rcases List.mem_append.mp hp with hp | hp
    · exact ⟨(M.new p hp).2, (fresh p hp).2⟩
    · exact S1.ld p hp
  · unfold ads
    rw [List.map_append]
    refine List.nodup_append.mpr ⟨M.nd, nd', fun a ha b hb e => ?_⟩
    obtain ⟨p, hp, rfl⟩ := List.mem_map.mp ha
    exact (fresh p hp).1 (e ▸ hb)
/-- and how a body shows it -/
theorem St.mutR {h h' : Heap} {mu mu' news : Ledger} (S : St K h₀ L cs m cm (news ++ mu') h') (hB : ∀ b o, b ∉ ads mu → h.get? b = some o → h₀.get? b = some o) (hs : ads mu' = ads mu) (hn : ∀ p ∈ news, p.1 ∉ ads mu) : Mut mu mu' news h h' :=
  ⟨S.out hB, hs, (fun p hp => (S.ld p (List.mem_append_right _ hp)).1), (fun p hp => by
    obtain ⟨o, _, hz, _⟩ := S.ld p (List.mem_append_left _ hp)
    refine ⟨?_, o⟩
    cases q : h.get? p.1 with
    | none => rfl
    | some o' => have := hB p.1 o' (hn p hp) q; rw [hz] at this; cases this), by
    have := S.nd
    unfold ads at this ⊢
    rw [List.map_append] at this
    exact (List.nodup_append.mp this).1⟩
theorem St.mutRn {h h' : Heap} {mu mu' news : Ledger} (S : St K h₀ L cs m cm (news ++ mu') h') (hB : ∀ b o, b ∉ ads mu → h.get? b = some o → h₀.get? b = some o) (hs : ads mu' = ads mu) : Mut mu mu' news h h' :=
  S.mutR hB hs fun p hp z => by
    have nd := S.nd
    unfold ads at nd hs z
    rw [List.map_append] at nd
    exact (List.nodup_append.mp nd).2.2 _ (List.mem_map.mpr ⟨p, hp, rfl⟩) _ (hs ▸ z) rfl
end
end Mine

open PySem PySem.W PyProof.Rows
set_option maxRecDepth 100000
namespace Mine
open PySem PySem.W PySem.Calls PyProof.Rows
/-- a method that the class holds as a function -/
structure Meth (K : Frag) (name : Str) (g : Addr) : Prop where
  find : findIn K (.ref 52) name = some (some (.ref g))
  fn : isFn K (.ref g) = true
  get : plainGet K 52 name = true
  isf : fnIn K g = true
theorem m_read_char (w : World) : Meth (KK w) (PySem.Str.ofString "_read_char") 35 := ⟨by kernel_rfl, by kernel_rfl, by kernel_rfl, by kernel_rfl⟩
theorem m_get_token (w : World) : Meth (KK w) (PySem.Str.ofString "get_token") 42 := ⟨by kernel_rfl, by kernel_rfl, by kernel_rfl, by kernel_rfl⟩
theorem m_push_token (w : World) : Meth (KK w) (PySem.Str.ofString "push_token") 49 := ⟨by kernel_rfl, by kernel_rfl, by kernel_rfl, by kernel_rfl⟩
section
variable {prog : Program} {w : World} {A : Around} {env : Env} {h₀ : Heap} {L : Addr} {cs : List (Str × Addr)} {m cm : Str → Option Value} {led : Ledger} {C : Value → Ledger → Prop}
/-- a method call without arguments -/
theorem W.callI0 {o : Expr} {name : Str} {apos pos : Pos} {x dx g : Addr} {f : Str → Option Value} {k : Nat} (i j : Nat) (ho : Ev (model prog w) A (St (KK w) h₀ L cs m cm led) env o (IsR x)) (hi : led[i]? = some (x, fun o => o = instObj 52 dx)) (hj : led[j]? = some (dx, AttrD f k)) (hm : Meth (KK w) name g) (hf : f name = none)
    (hc : Tr (model prog w) A (St (KK w) h₀ L cs m cm led) (call (.ref g) [.ref x] []) fun v h' => ∃ led', C v led' ∧ St (KK w) h₀ L cs m cm led' h')
    (he : eval (.Call (.Attribute o name apos) [] [] pos) env = (do
      let ov ← eval o env
      standAt apos.atName
      let (f, first) ← holding [ov] (getMethod ov name (do return (← importBound o env).getD true))
      callWith pos f first (backTo pos (starEach [] env)) []) := by rfl) :
    TrS (model prog w) A (KK w) h₀ L cs m cm led (eval (.Call (.Attribute o name apos) [] [] pos) env) C := fun h S => Run.mk fun s Q E hs q => by
  refine MethodCall_ (he := he) ((ho h S).bindK hs fun ov h1 k1 r1 => ?_)
  obtain ⟨ro, S1⟩ := r1
  cases ro
  obtain ⟨es, n, I, _, hfe, _⟩ := S1.inst hi hj
  refine method_inst S1.fr S1.wd.1 I hm.get hm.find hm.fn ((hfe name).trans (congrArg some hf)) ?_
  obtain ⟨og, hog, hdg⟩ := fd_at hm.isf S1.wdh.1
  exact callWith_function (o := og) (fd := fdAt (KK w) g) (PySem.evalArgs_none ⟨⟨hog, hdg⟩, (hc h1 S1).bindK rfl q⟩)
/-- a method call with one argument -/
theorem W.callI1 {o e : Expr} {name : Str} {apos pos : Pos} {x dx g : Addr} {f : Str → Option Value} {k : Nat} {V : Value → Prop} (i j : Nat) (ho : Ev (model prog w) A (St (KK w) h₀ L cs m cm led) env o (IsR x)) (hi : led[i]? = some (x, fun o => o = instObj 52 dx)) (hj : led[j]? = some (dx, AttrD f k)) (hm : Meth (KK w) name g) (hf : f name = none)
    (hx : Ev (model prog w) A (St (KK w) h₀ L cs m cm led) env e V) (hc : ∀ u, V u → Tr (model prog w) A (St (KK w) h₀ L cs m cm led) (call (.ref g) [.ref x, u] []) fun v h' => ∃ led', C v led' ∧ St (KK w) h₀ L cs m cm led' h')
    (he : eval (.Call (.Attribute o name apos) [e] [] pos) env = (do
      let ov ← eval o env
      standAt apos.atName
      let (f, first) ← holding [ov] (getMethod ov name (do return (← importBound o env).getD true))
      callWith pos f first (backTo pos (starEach [e] env)) []) := by rfl) (he2 : starEach [e] env = (false, eval e env) :: starEach [] env := by rfl) :
    TrS (model prog w) A (KK w) h₀ L cs m cm led (eval (.Call (.Attribute o name apos) [e] [] pos) env) C := fun h S => Run.mk fun s Q E hs q => by
  refine MethodCall_ (he := he) ((ho h S).bindK hs fun ov h1 k1 r1 => ?_)
  obtain ⟨ro, S1⟩ := r1
  cases ro
  obtain ⟨es, n, I, _, hfe, _⟩ := S1.inst hi hj
  refine method_inst S1.fr S1.wd.1 I hm.get hm.find hm.fn ((hfe name).trans (congrArg some hf)) ?_
  refine callWith_function (o := (KK w).lookup g |>.getD default) (fd := fdAt (KK w) g) ?_
  have hl : ∀ h', Wd (KK w) h' → h'.get? g = some ((KK w).lookup g |>.getD default) ∧ ((KK w).lookup g |>.getD default).data = .func (fdAt (KK w) g) := fun h' W => by
    have hfn := hm.isf
    unfold fnIn at hfn
    unfold fdAt
    split at hfn
    · rename_i c d fd sl el
      rw [el]
      exact ⟨W.1 _ _ el, rfl⟩
    · cases hfn
  have hxx : Tr (model prog w) A (St (KK w) h₀ L cs m cm led) (spliced (backTo pos (starEach [e] env))) _ := Es.cons (he := he2) hx Es.nil pos
  have ha : backTo pos (starEach [e] env) = (false, eval e env) :: backTo pos (starEach [] env) := by rw [he2]; rfl
  rw [ha] at hxx ⊢
  refine evalArgs_plain ((hxx h1 S1).bindK rfl fun vs h2 k2 r2 => ?_)
  obtain ⟨hv, S2⟩ := r2
  match vs, hv with
  | [u], hu => exact ⟨hl _ S2.wdh, (hc u hu.1 h2 S2).bindK rfl q⟩
end
end Mine

open PySem PySem.W PyProof.Rows
set_option maxRecDepth 100000
namespace Mine
open PySem PySem.W PySem.Calls PyProof.Rows
/-! attributes of function objects -/
theorem slot_fn_ga : Slot "function" "__getattribute__" "object.__getattribute__" :=
  .of (owner := "object") (n := "__getattribute__") (by rw [typeLookup_type, builtinLookup_eq_fast]; kernel_rfl) (by decide +kernel) (by decide +kernel) (by decide +kernel)
    (by first | exact .inl (by decide +kernel) | exact .inr (by decide +kernel)) (by rw [isSubtype_type]; kernel_rfl)
theorem slot_fn_sa : Slot "function" "__setattr__" "object.__setattr__" :=
  .of (owner := "object") (n := "__setattr__") (by rw [typeLookup_type, builtinLookup_eq_fast]; kernel_rfl) (by decide +kernel) (by decide +kernel) (by decide +kernel)
    (by first | exact .inl (by decide +kernel) | exact .inr (by decide +kernel)) (by rw [isSubtype_type]; kernel_rfl)
theorem fn_nogetattr : typeLookup (.type "function") "__getattr__" = pure none := by rw [typeLookup_type, builtinLookup_eq_fast]; kernel_rfl
theorem fn_noread : typeLookup (.type "function") (PySem.Str.ofString "read") = pure none := by rw [typeLookup_type, builtinLookup_eq_fast]; kernel_rfl
theorem entry_oga : entryFor table "object.__getattribute__" = some Builtin.«object.__getattribute__» := entryFor_of_tree (by kernel_rfl)
theorem entry_osa : entryFor table "object.__setattr__" = some Builtin.«object.__setattr__» := entryFor_of_tree (by kernel_rfl)
section
variable {prog : Program} {w : World} {A : Around} {E : Value → Shared → Prop} {h : Heap} {g : Array GenState} {d : Drawn} {t : Nat} {os : OsState} {a dx : Addr} {o od : Obj}
set_option maxHeartbeats 4000000 in
theorem fn_entry {fd : FuncData} {sl : Array (Option Value)} {tk : Tok} {v : Value} {Q : PySem.Fin → Shared → Prop} {m : Str → Option Value} (hx : h.get? a = some ⟨.type "function", some dx, .func fd, sl⟩) (hn : h.Ns dx m) (hv : m (PySem.Str.ofString "read") = some v)
    (hq : Q (.done (.ret v)) ⟨h, g, d, t, os⟩) :
    wpAny (model prog w) A (Builtin.«object.__getattribute__» ⟨[.ref a, .str (PySem.Str.ofString "read") tk], []⟩) Q E ⟨h, g, d, t, os⟩ := by
  have hT : (⟨h, g, d, t, os⟩ : Shared).TypeIs (.ref a) "function" := ⟨_, hx, rfl⟩
  have f4 := fn_noread
  have fin : ∀ {Q' : Option Value → Shared → Prop}, Q' (some v) ⟨h, g, d, t, os⟩ → wpAny (model prog w) A (nsGet dx (PySem.Str.ofString "read")) Q' E ⟨h, g, d, t, os⟩ := fun k => wpAny_nsGet hn (hv ▸ k)
  repeat (any_goals (first | assumption | with_reducible refine fin ?_ | wp_step))
theorem args_oga (a b : Value) : argsOk "object.__getattribute__" ⟨[a, b], []⟩ := by unfold argsOk; kernel_rfl
theorem fn_call {fd : FuncData} {sl : Array (Option Value)} {tk : Tok} {v : Value} {R : Result → Shared → Prop} {m : Str → Option Value} (hx : h.get? a = some ⟨.type "function", some dx, .func fd, sl⟩) (hn : h.Ns dx m) (hv : m (PySem.Str.ofString "read") = some v)
    (hq : R (.ok (.ret v)) ⟨h, g, d, t, os⟩) : codeAny (model prog w) A (.call (.builtin "object.__getattribute__") ⟨[.ref a, .str (PySem.Str.ofString "read") tk], []⟩) R ⟨h, g, d, t, os⟩ :=
  codeAny_call_builtin slot_fn_ga.plain entry_oga (slot_fn_ga.check _ _ _ _ _ _ _ _ (show (⟨h, g, d, t, os⟩ : Shared).TypeIs (.ref a) "function" from ⟨_, hx, rfl⟩) (args_oga _ _) (fn_entry hx hn hv hq))
theorem fn_attr {fd : FuncData} {sl : Array (Option Value)} {f : Addr} {ex : Bool} {Q : Value → Shared → Prop} {m : Str → Option Value} (hx : h.get? a = some ⟨.type "function", some dx, .func fd, sl⟩) (hn : h.Ns dx m) (hv : m (PySem.Str.ofString "read") = some (.ref f))
    (hq : Q (.ref f) ⟨h, g, d, t + 1, os⟩) : wpAny (model prog w) A (getAttr (.ref a) (PySem.Str.ofString "read") ex) Q E ⟨h, g, d, t, os⟩ := by
  have hT' : (⟨h, g, d, t + 1, os⟩ : Shared).TypeIs (.ref a) "function" := ⟨_, hx, rfl⟩
  have f2 := slot_fn_ga.lookup
  have f3 := slot_fn_ga.bind (.ref a)
  unfold getAttr
  refine wpAny_bind (wpAny_mkText ?_)
  unfold getAttrBy
  refine wpAny_holding (wpAny_bind (wpAny_typeOf hT' ?_))
  rw [f2]
  refine wpAny_bind (wpAny_pure ?_)
  show wpAny _ _ (getAttrByItsOwn _ _ _ _ _ _) _ _ _
  unfold getAttrByItsOwn
  have hk : hookBefore (.type "function") = pure none := by rfl
  rw [hk]
  refine wpAny_bind (wpAny_pure ?_)
  refine wpAny_bind (wpAny_attempt (wpAny_holding ?_))
  have hb : callGetattribute (.ref a) (Value.str (Str.ofString "read") t) (Value.builtin "object.__getattribute__") ex = boundAndCalled (Value.builtin "object.__getattribute__") (.ref a) (Value.str (Str.ofString "read") t) := by
    unfold callGetattribute
    rw [if_neg]
    cases ex <;> decide
  show wpAny _ _ (callGetattribute (.ref a) (Value.str (Str.ofString "read") t) (Value.builtin "object.__getattribute__") ex) _ _ _
  rw [hb]
  unfold boundAndCalled
  rw [f3]
  refine wpAny_bind (wpAny_pure ?_)
  refine wpAny_call (fn_call hx hn hv ?_)
  show wpAny _ _ (handedOut (.ref f)) _ _ _
  exact wpAny_pure hq
theorem fn_method {fd : FuncData} {sl : Array (Option Value)} {f : Addr} {pl : Sem Bool} {Q : Value × List Value → Shared → Prop} {m : Str → Option Value} (hx : h.get? a = some ⟨.type "function", some dx, .func fd, sl⟩) (hn : h.Ns dx m) (hv : m (PySem.Str.ofString "read") = some (.ref f))
    (hq : Q (.ref f, []) ⟨h, g, d, t + 1, os⟩) : wpAny (model prog w) A (getMethod (.ref a) (PySem.Str.ofString "read") pl) Q E ⟨h, g, d, t, os⟩ := by
  have hT : (⟨h, g, d, t, os⟩ : Shared).TypeIs (.ref a) "function" := ⟨_, hx, rfl⟩
  have f2 := slot_fn_ga.lookup
  have f6 : Manifest.canonical "object.__getattribute__" = "object.__getattribute__" := by decide +kernel
  unfold getMethod
  refine wpAny_bind (wpAny_specialOf hT f2 ?_)
  show wpAny _ _ (if (Manifest.canonical "object.__getattribute__" != "object.__getattribute__") = true then _ else _) _ _ _
  rw [f6, if_neg (by decide)]
  refine wpAny_bind (wpAny_specialOf hT fn_nogetattr ?_)
  show wpAny _ _ (if false = true then _ else _) _ _ _
  rw [if_neg (by decide)]
  refine wpAny_bind (wpAny_specialOf hT fn_noread ?_)
  refine wpAny_bind (fn_attr hx hn hv ?_)
  exact wpAny_pure hq
end
end Mine

open PySem PySem.W PyProof.Rows
set_option maxRecDepth 100000
namespace Mine
open PySem PySem.W PySem.Calls PyProof.Rows
section
variable {M : Model} {A : Around} {E : Value → Shared → Prop} {s : Shared}
theorem wpAny_callBorrowed {f : Value} {pos : List Value} {Q : Value → Shared → Prop}
    (hc : codeAny M A (.call f ⟨pos, []⟩) (fun r s' => match r with | .ok (.ret v) => Q v s' | .ok _ => False | .error e => E e s') s) : wpAny M A (callBorrowed f pos) Q E s := fun Γ p hΓ => by
  unfold callBorrowed
  rw [Sem.wp_call]
  refine wpCode_mono (fun r s' h => ?_) (hc _ p rfl (hΓ.enter _ none p (by intro x; cases x)))
  cases r with
  | error e => simpa using h
  | ok f => cases f <;> first | exact h.elim | simpa using h
end
/-- a call of a def, as a code that runs -/
def CnC (prog : Program) (w : World) (K : Frag) (A : Around) (f : Value) (args : List Value) (pre : Heap → Prop) (R : Heap → Value → Heap → Prop) : Prop :=
  ∀ h, Wd K h → pre h → ∀ (s : Shared) (R' : Result → Shared → Prop), s.heap = h → (∀ v h' k, R h v h' → R' (.ok (.ret v)) { s with heap := h', toks := k }) → codeAny (model prog w) A (.call f ⟨args, []⟩) R' s
section
variable {prog : Program} {w : World} {K : Frag} {A : Around} {env : Env}
theorem CnC.cn {f : Value} {args : List Value} {pre : Heap → Prop} {R : Heap → Value → Heap → Prop} (x : CnC prog w K A f args pre R) : Cn prog w K A f args pre R :=
  fun h W p => Run.mk fun s _ _ hs q => wpAny_call (x h W p s _ hs fun v h' k r => q v h' k r)
theorem CnC.of_body {f : Addr} {args : List Value} {binds : List (Str × Value)} {n : Nat} {mu : Ledger} {pre : Heap → Prop} {R : Heap → Value → Heap → Prop}
    {name qual : Str} {params : Arguments} {body : List Stmt} {scope : Scope} {dV kV doc pm cdv ct oc : Value} {an od : Option Addr} {osl : Array (Option Value)}
    (r : Room A (n + 1)) (ho : K.lookup f = some ⟨oc, od, .func (fnOf name qual params body scope dV kV doc pm an cdv ct), osl⟩) (hcd : codeIn K cdv qual = true)
    (hbind : bindArgs (fnOf name qual params body scope dV kV doc pm an cdv ct) ⟨args, []⟩ = pure binds)
    (hkind : (binds.all fun y => scope.names.lookup y.1 == some .local || scope.names.lookup y.1 == some .cell) = true)
    (hnd : ((cellsFrom 0 scope.names []).map (·.1)).Nodup)
    (hs : (scope.isCoroutine, scope.isGenerator, scope.kind) = (false, false, .function))
    (hmut : ∀ h, pre h → ∀ p ∈ mu, ∃ o, h.get? p.1 = some o ∧ p.2 o) (hhi : ∀ h, Wd K h → pre h → ∀ a ∈ ads mu, Hi K a) (hmn : ∀ h, pre h → (ads mu).Nodup)
    (h : ∀ (h h₀ : Heap) (L : Addr), Wd K h → pre h → (∀ b o, b ∉ ads mu → h.get? b = some o → h₀.get? b = some o) → h.objs.size = L →
      Ex (model prog w) (A.deeper (envOfC qual scope L f cdv))
        (St K h₀ L (cellsFrom (L + 1) scope.names []) (bindL (envOfC qual scope L f cdv).kindOf binds fun _ => none) (bindC (envOfC qual scope L f cdv).kindOf binds fun _ => none) mu) (envOfC qual scope L f cdv) body
        fun fl h' => ∃ v, Back fl v ∧ R h v h') : CnC prog w K A (.ref f) args pre R := by
  intro h₁ W hp s R' hs' q
  subst hs'
  injection hs with h1 h2
  injection h2 with h2 h3
  refine codeAny_call_cells r.room (W.1 _ _ ho) rfl W.nolimit (codeRec_of W.1 hcd) rfl hbind rfl (kindsX hkind _) (fun s₁ X => ?_) h1 h2 h3
  obtain ⟨g, tk, rfl, hk⟩ := X.done
  have lt : ∀ a ∈ ads mu, ∃ o, s.heap.get? a = some o := fun a ha => by
    obtain ⟨p, hp', rfl⟩ := List.mem_map.mp ha
    obtain ⟨o, e, _⟩ := hmut _ hp p hp'
    exact ⟨o, e⟩
  have S : St K (hideAll s.heap (ads mu)) s.heap.objs.size (cellsFrom (s.heap.objs.size + 1) scope.names []) (bindL (envOfC qual scope s.heap.objs.size f cdv).kindOf binds fun _ => none) (bindC (envOfC qual scope s.heap.objs.size f cdv).kindOf binds fun _ => none) mu g := by
    refine ⟨⟨X.toInCall.ns, fun b o e => hk b o (of_hideAll _ e), Nat.le_of_eq (hideAll_size _ _)⟩, ⟨X.cell, X.apart, X.above⟩, W.hides (hhi _ W hp), fun p hp' => ?_, hmn _ hp, ?_⟩
    · obtain ⟨o, e, hP⟩ := hmut _ hp p hp'
      have hlt := Heap.lt_size e
      refine ⟨⟨o, hk _ _ e, hP⟩, Nat.ne_of_lt hlt, hideAll_none _ (List.mem_map.mpr ⟨p, hp', rfl⟩), fun x hx => Nat.ne_of_lt (Nat.lt_trans hlt (X.above x.1 x.2 hx))⟩
    · have := cellsFrom_names scope.names 0 (s.heap.objs.size + 1) [] [] rfl
      exact this ▸ hnd
  refine (h s.heap (hideAll s.heap (ads mu)) s.heap.objs.size W hp (fun b o n e => hideAll_get _ e n) rfl g S).bindK rfl fun fl h' k e => ?_
  obtain ⟨v, hb, hR⟩ := e
  rcases hb with rfl | ⟨rfl, rfl⟩ <;> exact q _ h' k hR
end
end Mine

open PySem PySem.W PyProof.Rows
set_option maxRecDepth 100000
namespace Mine
open PySem PySem.W PySem.Calls PyProof.Rows
theorem slot_ci_next : Slot "callable_iterator" "__next__" "callable_iterator.__next__" :=
  .of (owner := "callable_iterator") (n := "__next__") (by rw [typeLookup_type, builtinLookup_eq_fast]; kernel_rfl) (by decide +kernel) (by decide +kernel) (by decide +kernel)
    (by first | exact .inl (by decide +kernel) | exact .inr (by decide +kernel)) (by rw [isSubtype_type]; kernel_rfl)
theorem slot_ci_iter : Slot "callable_iterator" "__iter__" "callable_iterator.__iter__" :=
  .of (owner := "callable_iterator") (n := "__iter__") (by rw [typeLookup_type, builtinLookup_eq_fast]; kernel_rfl) (by decide +kernel) (by decide +kernel) (by decide +kernel)
    (by first | exact .inl (by decide +kernel) | exact .inr (by decide +kernel)) (by rw [isSubtype_type]; kernel_rfl)
theorem entry_ci_next : entryFor table "callable_iterator.__next__" = some Builtin.«callable_iterator.__next__» := entryFor_of_tree (by kernel_rfl)
theorem args_ci_next (a : Value) : argsOk "callable_iterator.__next__" ⟨[a], []⟩ := by unfold argsOk; kernel_rfl
abbrev ciObj (f sv : Value) (e : Bool) : Obj := { cls := .type "callable_iterator", dict := none, data := .fields #[f, sv, .bool e], slots := #[] }
section
variable {prog : Program} {w : World} {A : Around} {E : Value → Shared → Prop} {s : Shared}
theorem stop_it {α : Type} {Q : α → Shared → Prop} (hh : A.handled = none) (h : ∀ e h', Ext s.heap h' → (∀ (t : Nat), Shared.TypeIs { s with heap := h', toks := t } e "StopIteration") → E e { s with heap := h' }) : wpAny (model prog w) A (Builtin.SmallTypes.stopIteration : Sem α) Q E s := by
  unfold Builtin.SmallTypes.stopIteration
  refine wpAny_bind ?_
  simp only [newExc, newTuple]
  refine wpAny_bind (wpAny_newObj_type ?_ (by size_fits))
  refine wpAny_bind (m := firstArgMember _ _) (wpAny_of_eq (a := Value.none) (by first | rfl | (simp only [firstArgMember]; rfl)) ?_)
  refine wpAny_newObj_type ?_ (by size_fits)
  simp only [raiseNew]
  refine wpAny_bind (wpAny_handled ?_)
  rw [hh]
  refine wpAny_bind (wpAny_pure (wpAny_throw ?_))
  exact h _ _ (Ext.trans (push_ext _ _) (push_ext _ _)) fun t => ⟨_, Heap.get?_push_size _ rfl, rfl⟩
theorem next_ended {it : Addr} {f sv : Value} {Q : Option Value → Shared → Prop} (hh : A.handled = none) (hi : s.heap.get? it = some (ciObj f sv true)) (h : ∀ h', Ext s.heap h' → Q none { s with heap := h' }) :
    wpAny (model prog w) A (pyNext (.ref it)) Q E s := by
  have hT : s.TypeIs (.ref it) "callable_iterator" := ⟨_, hi, rfl⟩
  unfold pyNext
  refine wpAny_bind (wpAny_attempt (wpAny_callSpecial?_slot (name := Str.ofString "__next__") hT slot_ci_next (wpAny_call_entry slot_ci_next hT entry_ci_next ?_ (args_ci_next _))))
  show wpAny _ _ (field (.ref it) 2 >>= _) _ _ s
  refine wpAny_bind (wpAny_field hi rfl (x := .bool true) rfl ?_)
  show wpAny _ _ (if (Value.bool true == Value.bool true) = true then _ else _) _ _ s
  rw [if_pos (show (Value.bool true == Value.bool true) = true by decide)]
  refine wpAny_bind (wpAny_rule ?_)
  refine wpAny_bind (stop_it hh fun e h' k ht => ?_)
  refine wpAny_bind (wpAny_isInstance (T := "StopIteration") (b := true) (ht _) isSubtype_stop ?_)
  exact wpAny_pure (h _ k)
theorem borrows_meth {q g : Addr} {x : Value} {og : Obj} {fd : FuncData} {Q : Bool → Shared → Prop} (hq : s.heap.get? q = some (methodObj (.ref g) x)) (hg : s.heap.get? g = some og) (hd : og.data = .func fd) (h : Q true s) : wpAny (model prog w) A (borrowsExactly (.ref q)) Q E s := by
  unfold borrowsExactly
  refine wpAny_bind (wpAny_load hq ?_)
  show wpAny _ _ (load g >>= _) _ _ _
  refine wpAny_bind (wpAny_load hg ?_)
  rw [hd]
  exact wpAny_pure h
theorem next_call {it q g : Addr} {x : Value} {sv : Str} {t0 : Tok} {og : Obj} {fd : FuncData} {Q : Option Value → Shared → Prop} (hh : A.handled = none) (hi : s.heap.get? it = some (ciObj (.ref q) (.str sv t0) false)) (hq : s.heap.get? q = some (methodObj (.ref g) x)) (hg : s.heap.get? g = some og) (hd : og.data = .func fd)
    (h : codeAny (model prog w) A.in1 (.call (.ref g) ⟨[x], []⟩) (fun r s' => ∃ y t, r = .ok (.ret (.str y t)) ∧ s'.heap.get? it = some (ciObj (.ref q) (.str sv t0) false) ∧ s'.heap.get? q = some (methodObj (.ref g) x) ∧ s'.heap.get? g = some og ∧
      (y ≠ sv → Q (some (.str y t)) s') ∧ (y = sv → ∀ h', h'.get? it = some (ciObj .none .none true) → (∀ b o, b ≠ it → s'.heap.get? b = some o → h'.get? b = some o) → Q none { s' with heap := h' })) s) :
    wpAny (model prog w) A (pyNext (.ref it)) Q E s := by
  have hT : s.TypeIs (.ref it) "callable_iterator" := ⟨_, hi, rfl⟩
  unfold pyNext
  refine wpAny_bind (wpAny_attempt (wpAny_callSpecial?_slot (name := Str.ofString "__next__") hT slot_ci_next (wpAny_call_entry slot_ci_next hT entry_ci_next ?_ (args_ci_next _))))
  show wpAny _ _ (field (.ref it) 2 >>= _) _ _ s
  refine wpAny_bind (wpAny_field hi rfl (x := .bool false) rfl ?_)
  show wpAny _ _ (if (Value.bool false == Value.bool true) = true then _ else _) _ _ s
  rw [if_neg (show ¬ ((Value.bool false == Value.bool true) = true) by decide)]
  show wpAny _ _ (field (.ref it) 0 >>= _) _ _ s
  refine wpAny_bind (wpAny_field hi rfl (x := .ref q) rfl ?_)
  unfold callOutOfASlot
  refine wpAny_bind (wpAny_attempt (wpAny_bind (borrows_meth hq hg hd ?_)))
  rw [if_pos rfl]
  refine wpAny_callBorrowed (method_call hq (codeAny_mono h fun r s' hr => ?_))
  obtain ⟨y, t, rfl, hi, hq, hg, h1, h2⟩ := hr
  show wpAny _ _ (field (.ref it) 2 >>= _) _ _ s'
  refine wpAny_bind (wpAny_field hi rfl (x := .bool false) rfl ?_)
  show wpAny _ _ (if (Value.bool false == Value.bool true) = true then _ else _) _ _ s'
  rw [if_neg (show ¬ ((Value.bool false == Value.bool true) = true) by decide)]
  show wpAny _ _ (field (.ref it) 1 >>= _) _ _ s'
  refine wpAny_bind (wpAny_field hi rfl (x := .str sv t0) rfl ?_)
  refine wpAny_bind (wpAny_holding (wpAny_eqBool_str ?_))
  by_cases e : y = sv
  · rw [decide_eq_true e.symm]
    show wpAny _ _ (if false = true then _ else _) _ _ s'
    rw [if_neg (by decide)]
    refine wpAny_bind (wpAny_rule ?_)
    refine wpAny_bind ?_
    show wpAny _ _ (field (.ref it) 0 >>= _) _ _ s'
    refine wpAny_bind (wpAny_field hi rfl (x := .ref q) rfl ?_)
    refine wpAny_bind ?_
    unfold slotLetsGo
    show wpAny _ _ (borrowsExactly (.ref q) >>= _) _ _ s'
    refine wpAny_bind (borrows_meth hq hg hd ?_)
    show wpAny _ _ (pure ()) _ _ s'
    refine wpAny_pure ?_
    refine wpAny_bind (wpAny_setField_rec hi (Nat.lt_of_succ_le (Nat.le_of_ble_eq_true rfl)) fun g1 e1 k1 => ?_)
    refine wpAny_bind (wpAny_setField_rec e1 (Nat.lt_of_succ_le (Nat.le_of_ble_eq_true rfl)) fun g2 e2 k2 => ?_)
    refine wpAny_setField_rec e2 (Nat.lt_of_succ_le (Nat.le_of_ble_eq_true rfl)) fun g3 e3 k3 => ?_
    refine stop_it hh fun ev h' k ht => ?_
    refine wpAny_bind (wpAny_isInstance (T := "StopIteration") (b := true) (ht _) isSubtype_stop ?_)
    refine wpAny_pure (h2 e h' (k _ _ e3) fun b o hb ho => k _ _ ?_)
    rw [k3.2 b hb, k2.2 b hb, k1.2 b hb]
    exact ho
  · rw [decide_eq_false (fun z => e z.symm)]
    exact wpAny_pure ⟨_, rfl, wpAny_pure (h1 e)⟩
end
end Mine

open PySem PySem.W PyProof.Rows
set_option maxRecDepth 100000
namespace Mine
open PySem PySem.W PySem.Calls PyProof.Rows
theorem entry_ci_iter : entryFor table "callable_iterator.__iter__" = some Builtin.«dict_keyiterator.__iter__» :=
  entryFor_alias (id' := "dict_keyiterator.__iter__") (by kernel_rfl) (by first | rfl | decide +kernel | (unfold String.splitOn; simp +decide [String.splitOnAux])) (by decide +kernel) (by kernel_rfl)
theorem args_ci_iter (a : Value) : argsOk "callable_iterator.__iter__" ⟨[a], []⟩ := by unfold argsOk; kernel_rfl
theorem entry_iter : entryFor table "iter" = some Builtin.«iter» := entryFor_of_fast (by kernel_rfl)
theorem args_iter2 (a b : Value) : argsOk "iter" ⟨[a, b], []⟩ := by unfold argsOk; kernel_rfl
theorem slot_meth_call : Slot "method" "__call__" "method.__call__" :=
  .of (owner := "method") (n := "__call__") (by rw [typeLookup_type, builtinLookup_eq_fast]; kernel_rfl) (by decide +kernel) (by decide +kernel) (by decide +kernel)
    (by first | exact .inl (by decide +kernel) | exact .inr (by decide +kernel)) (by rw [isSubtype_type]; kernel_rfl)
section
variable {prog : Program} {w : World} {A : Around} {E : Value → Shared → Prop} {s : Shared}
theorem pyIter_ci {it : Addr} {f sv : Value} {e : Bool} {Q : Value → Shared → Prop} (hi : s.heap.get? it = some (ciObj f sv e)) (h : Q (.ref it) s) : wpAny (model prog w) A (pyIter (.ref it)) Q E s := by
  have hT : s.TypeIs (.ref it) "callable_iterator" := ⟨_, hi, rfl⟩
  refine wpAny_pyIter_slot hT slot_ci_iter (wpAny_call_entry slot_ci_iter hT entry_ci_iter ?_ (args_ci_iter _))
  show wpAny _ _ (ret (.ref it)) _ _ s
  exact wpAny_pure ⟨_, rfl, "callable_iterator", _, hT, slot_ci_next.lookup, h⟩
theorem iter2 {q : Addr} {f x : Value} {sv : Str} {t : Tok} {Q : Value → Shared → Prop} (hq : s.heap.get? q = some (methodObj f x)) (h : Q (.ref s.heap.objs.size) { s with heap := s.heap.push (ciObj (.ref q) (.str sv t) false) }) :
    wpAny (model prog w) A (call (.builtin "iter") [.ref q, .str sv t]) Q E s := by
  have hT : s.TypeIs (.ref q) "method" := ⟨_, hq, rfl⟩
  refine call_function_entry (by decide +kernel) (by decide +kernel) entry_iter (args_iter2 _ _) ?_
  unfold Builtin.«iter»
  refine wpAny_bind (m := someArgs "iter" 1 2 _) (wpAny_of_eq (a := [Value.ref q, .str sv t]) (by first | rfl | kernel_rfl!) ?_)
  show wpAny _ _ (specialOf (.ref q) _ >>= _) _ _ _
  refine wpAny_bind (wpAny_specialOf hT slot_meth_call.lookup ?_)
  show wpAny _ _ (if false = true then _ else _) _ _ _
  rw [if_neg (by decide)]
  refine wpAny_bind (wpAny_rule ?_)
  unfold newFields
  refine wpAny_bind (wpAny_newObj_type ?_ (by size_fits))
  exact wpAny_pure ⟨_, rfl, h⟩
end
end Mine

open PySem PySem.W PyProof.Rows
set_option maxRecDepth 100000
namespace Mine
open PySem PySem.W PySem.Calls PyProof.Rows
section
variable {prog : Program} {w : World} {K : Frag} {A : Around} {env : Env} {h₀ : Heap} {L : Addr} {cs : List (Str × Addr)} {m cm : Str → Option Value} {led : Ledger} {C : Value → Ledger → Prop}
/-- a builtin, called with arguments that may make objects -/
theorem W.callB {fe e : Expr} {rest : List Expr} {pos : Pos} {id : String} (hf : Ev (model prog w) A (St K h₀ L cs m cm led) env fe (IsV (.builtin id)))
    (hes : EsS (model prog w) A K h₀ L cs m cm led env (e :: rest) fun vs led1 => TrS (model prog w) A K h₀ L cs m cm led1 (call (.builtin id) vs []) C)
    (he : starEach (e :: rest) env = (false, eval e env) :: starEach rest env := by rfl) (hplain : (backTo pos (starEach rest env)).any (·.1) = false := by rfl)
    (hcall : eval (.Call fe (e :: rest) [] pos) env = (do callWith pos (← eval fe env) [] (backTo pos (starEach (e :: rest) env)) (backToKw pos (keywordEach [] env))) := by rfl) :
    TrS (model prog w) A K h₀ L cs m cm led (eval (.Call fe (e :: rest) [] pos) env) C := fun h hh => Run.mk fun s Q E hs q => by
  refine Call_ (he := hcall) ((hf h hh).bindK hs fun v h1 k1 r1 => ?_)
  obtain ⟨r1, hh1⟩ := r1
  cases r1
  exact callWith_method1 (he := he) (hplain := hplain) ((hes pos h1 hh1).bindK rfl fun vs h2 k2 ⟨led1, hc, S⟩ => (hc h2 S).bindK rfl q)
/-- what ends a turn of a loop -/
def Turn {σ : Type} (K : Frag) (h₀ : Heap) (L : Addr) (cs : List (Str × Addr)) (mf cf : σ → Str → Option Value) (lf : σ → Ledger) (R : Nat → σ → Prop) (G : Flow → Heap → Prop) (k : Nat) : Flow → Heap → Prop
  | .next, h | .cont, h => ∃ k' z', k' < k ∧ R k' z' ∧ St K h₀ L cs (mf z') (cf z') (lf z') h
  | .ret v, h => G (.ret v) h
  | .brk, _ => False
theorem Ex.forV {σ : Type} {iter : Expr} {x : Str} {px : Pos} {body rest : List Stmt} {pos : Pos} {it : Addr} (mf cf : σ → Str → Option Value) (lf : σ → Ledger) (R : Nat → σ → Prop) {G : Flow → Heap → Prop} (n : Nat) (z : σ) (hz : R n z) (em : mf z = m) (ec : cf z = cm) (el : lf z = led)
    (hit : Ev (model prog w) A (St K h₀ L cs m cm led) env iter (IsR it)) (hci : ∃ (i : Nat) (f sv : Value) (e : Bool), led[i]? = some (it, fun o => o = ciObj f sv e))
    (hn : ∀ k z, R k z → Tr (model prog w) A (St K h₀ L cs (mf z) (cf z) (lf z)) (pyNext (.ref it)) fun r h' => match r with
      | some v => ∃ led', Ex (model prog w) A (St K h₀ L cs (up (mf z) x v) (cf z) led') env body (Turn K h₀ L cs mf cf lf R G k) ∧ St K h₀ L cs (mf z) (cf z) led' h'
      | none => ∃ led', Ex (model prog w) A (St K h₀ L cs (mf z) (cf z) led') env rest G ∧ St K h₀ L cs (mf z) (cf z) led' h')
    (hs : ∀ x, foldedSetIterable iter env x = pure x := by intro _; rfl) (hL : env.locals = L := by rfl) (hk : env.scope.kind = .function := by rfl) (hl : env.kindOf x = some .local := by rfl) :
    Ex (model prog w) A (St K h₀ L cs m cm led) env (.For (.Name x px) iter body [] pos :: rest) G := by
  subst em ec el
  refine Ex.cons (J := fun g => ∃ z led', Ex (model prog w) A (St K h₀ L cs (mf z) (cf z) led') env rest G ∧ St K h₀ L cs (mf z) (cf z) led' g) (fun h hh => Run.mk fun s Q E hs' q => ?_) (fun g ⟨z, led', k, S⟩ => k g S)
  refine wpAny_noRaise ?_
  refine wpAny_For ((hit h hh).bindK hs' fun v h1 k1 r1 => ?_) hs
  obtain ⟨ro, S1⟩ := r1
  cases ro
  obtain ⟨i, f, sv, e, hi⟩ := hci
  obtain ⟨o, ho, rfl⟩ := S1.has hi
  refine pyIter_ci ho ?_
  refine codeAny_forLoop (fun k s' => ∃ g tk, s' = { s with heap := g, toks := tk } ∧ ∃ z, R k z ∧ St K h₀ L cs (mf z) (cf z) (lf z) g) ?_ n ⟨h1, k1, rfl, z, hz, S1⟩
  rintro k s' ⟨g, tk, rfl, z, hR, S⟩
  refine (hn k z hR g S).bindK rfl fun r g1 k1 r1 => ?_
  cases r with
  | none =>
    obtain ⟨led', kx, S'⟩ := r1
    exact wpAny_execs_nil (q .next g1 k1 ⟨z, led', kx, S'⟩)
  | some v =>
    obtain ⟨led', kx, S'⟩ := r1
    refine wpAny_assign_Name (wpAny_storeName_local hl (hL ▸ S'.fr.ns) (fun h' hn hs2 => ?_) (by show (env.scope.kind == .class || (env.scope.kind == .module && env.locals != env.globals)) = false; rw [hk]; rfl))
    refine (kx h' (S'.setL (hL ▸ hn) (hL ▸ hs2))).bindK rfl fun fl g2 k2 r2 => ?_
    cases fl with
    | next => obtain ⟨k', z', hk', hR', S2⟩ := r2; exact ⟨k', hk', g2, k2, rfl, z', hR', S2⟩
    | cont => obtain ⟨k', z', hk', hR', S2⟩ := r2; exact ⟨k', hk', g2, k2, rfl, z', hR', S2⟩
    | brk => exact r2.elim
    | ret v => exact q (.ret v) g2 k2 r2
theorem Ex.cont {pos : Pos} {rest : List Stmt} {F : Flow → Heap → Prop} {I : Heap → Prop} (k : ∀ h, I h → F .cont h) : Ex (model prog w) A I env (.Continue pos :: rest) F := fun h hh => Run.mk fun s Q E hs q => by
  subst hs
  refine wpAny_execs_cons ?_
  show wpAny _ _ (exec (.Continue pos) env) _ _ _
  exact wpAny_bind (wpAny_standAt (wpAny_pure (q .cont s.heap s.toks (k _ hh))))
end
end Mine

open PySem PySem.W PyProof.Rows
set_option maxRecDepth 100000
namespace Mine
open PySem PySem.W PySem.Calls PyProof.Rows
theorem Wd.hi {K : Frag} {h : Heap} {a : Addr} (W : Wd K h) (e : h.get? a = none) : Hi K a := by
  have ns : ∀ {b : Addr} {m : Str → Option Value}, h.Ns b m → a ≠ b := fun x q => by
    obtain ⟨o, _, _, ho, _⟩ := x
    rw [← q, e] at ho; cases ho
  obtain ⟨X, p, l, g, b, T⟩ := W
  obtain ⟨mc, h1, _⟩ := T.nolimit
  refine ⟨?_, ns T.g, ns T.b, ns h1⟩
  cases q : K.lookup a with
  | none => rfl
  | some o => have := X _ _ q; rw [e] at this; cases this
theorem St.hi {K : Frag} {h₀ h : Heap} {L : Addr} {cs : List (Str × Addr)} {m cm : Str → Option Value} {led : Ledger} (S : St K h₀ L cs m cm led h) : ∀ p ∈ led, Hi K p.1 := fun p hp => S.wd.hi (S.ld p hp).2.2.1
/-- what a call that changes the objects of mu finds; X: what it reads besides -/
structure Mpre (K : Frag) (mu : Ledger) (X : Heap → Prop) (h : Heap) : Prop where
  ld : ∀ p ∈ mu, ∃ o, h.get? p.1 = some o ∧ p.2 o
  hi : ∀ a ∈ ads mu, Hi K a
  nd : (ads mu).Nodup
  st : X (hideAll h (ads mu))
theorem ads_append (a b : Ledger) : ads (a ++ b) = ads a ++ ads b := List.map_append
section
variable {K : Frag} {h₀ : Heap} {L : Addr} {cs : List (Str × Addr)} {m cm : Str → Option Value} {led mu : Ledger} {X : Heap → Prop}
theorem St.mpre {h : Heap} (S : St K h₀ L cs m cm (mu ++ led) h) (hx : X (hideAll h (ads mu))) : Mpre K mu X h :=
  ⟨fun p hp => (S.ld p (List.mem_append_left _ hp)).1, fun a ha => by obtain ⟨p, hp, rfl⟩ := List.mem_map.mp ha; exact S.hi p (List.mem_append_left _ hp), (by have := S.nd; rw [ads_append] at this; exact (List.nodup_append.mp this).1), hx⟩
/-- the base, with the objects hidden -/
theorem St.hidden {h : Heap} (S : St K h₀ L cs m cm (mu ++ led) h) : Ext h₀ (hideAll h (ads mu)) := fun b o e => hideAll_get _ (S.fr.keep b o e) fun hb => by
  obtain ⟨p, hp, rfl⟩ := List.mem_map.mp hb
  rw [(S.ld p (List.mem_append_left _ hp)).2.2.1] at e; cases e
/-- an object of the rest, or a cell, is not hidden -/
theorem St.shown {h : Heap} (S : St K h₀ L cs m cm (mu ++ led) h) {p : Addr × (Obj → Prop)} (hp : p ∈ led) : ∃ o, (hideAll h (ads mu)).get? p.1 = some o ∧ p.2 o := by
  obtain ⟨⟨o, ho, hP⟩, _⟩ := S.ld p (List.mem_append_right _ hp)
  refine ⟨o, hideAll_get _ ho fun hb => ?_, hP⟩
  have nd := S.nd
  rw [ads_append] at nd
  exact (List.nodup_append.mp nd).2.2 _ hb _ (List.mem_map.mpr ⟨p, hp, rfl⟩) rfl
theorem St.shownC {h : Heap} (S : St K h₀ L cs m cm (mu ++ led) h) {x : Str} {c : Addr} (hc : cs.lookup x = some c) : (hideAll h (ads mu)).IsCell c (cm x) := by
  obtain ⟨o, ho, hd⟩ := S.cl.cell x c hc
  refine ⟨o, hideAll_get _ ho fun hb => ?_, hd⟩
  obtain ⟨p, hp, e⟩ := List.mem_map.mp hb
  exact (S.ld p (List.mem_append_left _ hp)).2.2.2 _ (mem_of_lookup hc) e
end
/-- what a call leaves: v, and the objects of mu as mu', and news -/
def MutR (mu : Ledger) (P : Value → Ledger → Ledger → Prop) (h : Heap) (v : Value) (h' : Heap) : Prop := ∃ mu' news, P v mu' news ∧ Mut mu mu' news h h'
section
variable {prog : Program} {w : World} {K : Frag} {A : Around} {env : Env} {h₀ : Heap} {L : Addr} {cs : List (Str × Addr)} {m cm : Str → Option Value} {led mu : Ledger} {C : Value → Ledger → Prop} {X : Heap → Prop} {P : Value → Ledger → Ledger → Prop}
theorem Cn.mut {f : Value} {args : List Value} (c : Cn prog w K A f args (Mpre K mu X) (MutR mu P)) (hx : ∀ h, St K h₀ L cs m cm (mu ++ led) h → X (hideAll h (ads mu))) (k : ∀ v mu' news, P v mu' news → C v (news ++ (mu' ++ led))) :
    TrS (model prog w) A K h₀ L cs m cm (mu ++ led) (call f args []) C := fun h S => (c h S.wdh (S.mpre (hx h S))).mono fun v h' ⟨mu', news, p, M⟩ => ⟨_, k v mu' news p, S.mut M⟩
theorem CnC.of_bodyM {f : Addr} {args : List Value} {binds : List (Str × Value)} {n : Nat}
    {name qual : Str} {params : Arguments} {body : List Stmt} {scope : Scope} {dV kV doc pm cdv ct oc : Value} {an od : Option Addr} {osl : Array (Option Value)} (hX : ∀ h h', X h → Ext h h' → X h')
    (r : Room A (n + 1)) (ho : K.lookup f = some ⟨oc, od, .func (fnOf name qual params body scope dV kV doc pm an cdv ct), osl⟩) (hcd : codeIn K cdv qual = true)
    (hbind : bindArgs (fnOf name qual params body scope dV kV doc pm an cdv ct) ⟨args, []⟩ = pure binds)
    (hkind : (binds.all fun y => scope.names.lookup y.1 == some .local || scope.names.lookup y.1 == some .cell) = true)
    (hnd : ((cellsFrom 0 scope.names []).map (·.1)).Nodup)
    (hs : (scope.isCoroutine, scope.isGenerator, scope.kind) = (false, false, .function))
    (h : ∀ (h₀ : Heap) (L : Addr), Wd K h₀ → X h₀ →
      Ex (model prog w) (A.deeper (envOfC qual scope L f cdv))
        (St K h₀ L (cellsFrom (L + 1) scope.names []) (bindL (envOfC qual scope L f cdv).kindOf binds fun _ => none) (bindC (envOfC qual scope L f cdv).kindOf binds fun _ => none) mu) (envOfC qual scope L f cdv) body
        fun fl h' => ∃ v mu' news m' cm', Back fl v ∧ P v mu' news ∧ ads mu' = ads mu ∧ St K h₀ L (cellsFrom (L + 1) scope.names []) m' cm' (news ++ mu') h') : CnC prog w K A (.ref f) args (Mpre K mu X) (MutR mu P) := by
  refine CnC.of_body (mu := mu) r ho hcd hbind hkind hnd hs (fun h M => M.ld) (fun h _ M => M.hi) (fun h M => M.nd) fun g₀ h₀ L WD M hB hL => ?_
  have x0 : Ext (hideAll g₀ (ads mu)) h₀ := fun b o e => by
    by_cases hb : b ∈ ads mu
    · rw [hideAll_none _ hb] at e; cases e
    · exact hB b o hb (of_hideAll _ e)
  intro g S
  refine (h h₀ L (S.wd) (hX _ _ M.st x0) g S).mono fun fl h' ⟨v, mu', news, _, _, hb, hp, ha, S'⟩ => ⟨v, hb, mu', news, hp, S'.mutRn hB ha⟩
end
end Mine

open PySem PySem.W PyProof.Rows
set_option maxRecDepth 100000
namespace Mine
open PySem PySem.W PySem.Calls PyProof.Rows
section
variable {K : Frag} {h₀ h h' : Heap} {L : Addr} {cs : List (Str × Addr)} {m cm : Str → Option Value} {led : Ledger}
theorem St.putE (S : St K h₀ L cs m cm led h) {i : Nat} {a : Addr} {P P' : Obj → Prop} {o : Obj} (hi : led[i]? = some (a, P)) (hs : ∀ b o, b ≠ a → h.get? b = some o → h'.get? b = some o) (ho : h'.get? a = some o) (hP : P' o) :
    St K h₀ L cs m cm (led.set i (a, P')) h' := by
  have hm : (a, P) ∈ led := List.mem_of_getElem? hi
  have ha : a ∈ ads led := List.mem_map.mpr ⟨_, hm, rfl⟩
  refine S.extB (as := [a]) (fun b o hb e => hs b o (by simpa using hb) e) (fun b hb => by rw [List.mem_singleton.mp hb]; exact ha) (fun p hp => ?_) (by rw [ads_set hi]; exact S.nd)
  refine ⟨by rw [← ads_set (P' := P') hi]; exact List.mem_map.mpr ⟨p, hp, rfl⟩, ?_⟩
  obtain ⟨j, hj, e⟩ := List.getElem_of_mem hp
  have e' : (led.set i (a, P'))[j]? = some p := by rw [← e]; exact List.getElem?_eq_getElem hj
  rw [List.getElem?_set] at e'
  split at e'
  · split at e'
    · cases e'; exact ⟨o, ho, hP⟩
    · cases e'
  · rename_i hij
    obtain ⟨⟨o', ho', hP'⟩, r⟩ := S.ld p (List.mem_of_getElem? e')
    exact ⟨o', hs _ _ (fun q => S.ne hi (show led[j]? = some (p.1, p.2) from e') hij q.symm) ho', hP'⟩
end
theorem fn_same {K : Frag} {f : Addr} (hfd : fnIn K f = true) : ∃ o fd, o.data = .func fd ∧ ∀ h, Wd K h → h.get? f = some o := by
  unfold fnIn at hfd
  split at hfd
  · rename_i _ _ fd _ el
    exact ⟨_, fd, rfl, fun h W => W.1 _ _ el⟩
  · cases hfd
section
variable {prog : Program} {w : World} {K : Frag} {A : Around} {env : Env} {h₀ : Heap} {L : Addr} {cs : List (Str × Addr)} {m cm : Str → Option Value} {led mu : Ledger} {C : Option Value → Ledger → Prop} {X : Heap → Prop} {P : Value → Ledger → Ledger → Prop}
theorem Tr.next {it q g x : Addr} {sv : Str} {t0 : Tok} (i j : Nat) (hh : A.handled = none) (hi : led[i]? = some (it, fun o => o = ciObj (.ref q) (.str sv t0) false)) (hq : led[j]? = some (q, fun o => o = methodObj (.ref g) (.ref x))) (hg : fnIn K g = true)
    (c : CnC prog w K A.in1 (.ref g) [.ref x] (Mpre K mu X) (MutR mu P)) (hx : ∀ h, St K h₀ L cs m cm (mu ++ led) h → X (hideAll h (ads mu))) (hP : ∀ v mu' news, P v mu' news → news = [] ∧ ∃ y t, v = .str y t)
    (ks : ∀ y t mu', P (.str y t) mu' [] → y ≠ sv → C (some (.str y t)) (mu' ++ led)) (kn : ∀ t mu', P (.str sv t) mu' [] → C none (mu' ++ led.set i (it, fun o => o = ciObj .none .none true))) :
    Tr (model prog w) A (St K h₀ L cs m cm (mu ++ led)) (pyNext (.ref it)) fun r h' => ∃ led', C r led' ∧ St K h₀ L cs m cm led' h' := fun h S => Run.mk fun s Q E hs q' => by
  subst hs
  have get : ∀ {mu' : Ledger} {k : Nat} {p : Addr × (Obj → Prop)}, led[k]? = some p → (mu' ++ led)[mu'.length + k]? = some p := fun {mu' k p} e => by rw [List.getElem?_append_right (Nat.le_add_right _ _), Nat.add_sub_cancel_left]; exact e
  obtain ⟨og, fd, hdat, hgo⟩ := fn_same hg
  obtain ⟨o1, ho1, rfl⟩ := S.has (get hi)
  obtain ⟨o2, ho2, rfl⟩ := S.has (get hq)
  refine next_call hh ho1 ho2 (hgo _ S.wdh) hdat (c s.heap S.wdh (S.mpre (hx _ S)) s _ rfl fun v h' k r => ?_)
  obtain ⟨mu', news, hp, M⟩ := r
  have S' := S.mut M
  obtain ⟨rfl, y, t, rfl⟩ := hP v mu' news hp
  rw [List.nil_append] at S'
  obtain ⟨_, ho1', rfl⟩ := S'.has (get hi)
  obtain ⟨_, ho2', rfl⟩ := S'.has (get hq)
  refine ⟨y, t, rfl, ho1', ho2', hgo _ S'.wdh, fun hy => q' _ _ k ⟨_, ks y t mu' hp hy, S'⟩, fun hy h2 hit hk => ?_⟩
  subst hy
  refine q' none h2 k ⟨_, kn t mu' hp, ?_⟩
  have := S'.putE (P' := fun o => o = ciObj .none .none true) (get hi) hk hit rfl
  rwa [List.set_append_right _ _ (Nat.le_add_right _ _), Nat.add_sub_cancel_left] at this
theorem Tr.nextEnd {it : Addr} {f sv : Value} (i : Nat) (hh : A.handled = none) (hi : led[i]? = some (it, fun o => o = ciObj f sv true)) (k : C none led) :
    Tr (model prog w) A (St K h₀ L cs m cm led) (pyNext (.ref it)) fun r h' => ∃ led', C r led' ∧ St K h₀ L cs m cm led' h' := fun h S => Run.mk fun s Q E hs q' => by
  subst hs
  obtain ⟨o, ho, rfl⟩ := S.has hi
  exact next_ended hh ho fun h' e => q' _ h' s.toks ⟨_, k, St.okk.grow _ _ S e⟩
end
/-- a method that the class holds, taken as an object -/
structure MethB (K : Frag) (name : Str) (g : Addr) : Prop extends Meth K name g where
  dget : specialIn K (.ref g) "__get__" = some (some (.builtin "function.__get__"))
  tk : takesIn K (.ref g) = some false
  cp : copiedNames.contains name = false
  inst : hasDictIn K 52 = true
theorem mb_read_char (w : World) : MethB (KK w) (PySem.Str.ofString "_read_char") 35 := ⟨m_read_char w, by kernel_rfl, by kernel_rfl, by decide +kernel, i_dict w⟩
section
variable {prog : Program} {w : World} {A : Around} {env : Env} {h₀ : Heap} {L : Addr} {cs : List (Str × Addr)} {m cm : Str → Option Value} {led : Ledger} {C : Value → Ledger → Prop}
theorem W.attrM {e : Expr} {name : Str} {pos : Pos} {x dx g : Addr} {f : Str → Option Value} {k : Nat} (i j : Nat) (he : Ev (model prog w) A (St (KK w) h₀ L cs m cm led) env e (IsR x)) (hi : led[i]? = some (x, fun o => o = instObj 52 dx)) (hj : led[j]? = some (dx, AttrD f k))
    (hv : f name = none) (hm : MethB (KK w) name g) (kk : ∀ q, C (.ref q) ((q, fun o => o = methodObj (.ref g) (.ref x)) :: led))
    (hn : eval (.Attribute e name pos) env = (do
      let o ← eval e env
      standAt pos.atName
      let r ← holding [o] (getAttr o name true)
      letTemporaryGo e o r
      pure r) := by with_unfolding_all rfl) : TrS (model prog w) A (KK w) h₀ L cs m cm led (eval (.Attribute e name pos) env) C := fun h S => Run.mk fun s Q E hs q => by
  refine Attribute_any_ (he := hn) ((he h S).bindK hs fun ov h1 k1 r1 => ?_)
  obtain ⟨ro, S1⟩ := r1
  cases ro
  obtain ⟨es, n, I, _, hf, _⟩ := S1.inst hi hj
  refine get_bind S1.wdh.1 I (plainGet_of hm.get).1 (findObj_fn hm.inst hm.find hm.dget hm.tk hm.cp (by show lookIn name (W.dictOf es n) = _; rw [lookIn_dict, hf name, hv])) (plainGet_of hm.get).2
    (wpAny_call (fn_get (s := { s with heap := h1, toks := k1 + 1 }) S1.wdh.1 (beq_iff_eq.mp hm.fn) (handed_on rfl ?_)))
  exact q _ _ _ ⟨_, kk _, S1.add (push_ext _ _) (push_none _) (Heap.get?_push_size _ rfl) rfl⟩
end
end Mine

open PySem PySem.W PyProof.Rows
set_option maxRecDepth 100000
namespace Mine
open PySem PySem.W PySem.Calls PyProof.Rows
section
variable {prog : Program} {w : World} {A : Around} {I : Heap → Prop} {env : Env}
theorem Ev.text {x : Str} {l : List Nat} {k : Nat} {pos : Pos} (e : x = ⟨l.toArray⟩ := by rfl) : Ev (model prog w) A I env (.Constant (.str x) k pos) (IsT l) := e ▸ Ev.str
theorem t_eq {x y : List Nat} (a b : Value) (ha : IsT x a) (hb : IsT y b) : Tr (model prog w) A I (compareOp .Eq a b) fun c h' => IsB (decide (x = y)) c ∧ I h' := by
  obtain ⟨t, rfl⟩ := ha; obtain ⟨u, rfl⟩ := hb
  refine op_of fun s Q E q => eq_str (q _ s.toks ?_)
  show _ = Value.bool (decide (x = y))
  congr 1
  rw [Bool.eq_iff_iff, beq_iff_eq, decide_eq_true_iff]
  exact ⟨fun e => by injection e with e; simpa using e, fun e => e ▸ rfl⟩
theorem t_ne {x y : List Nat} (a b : Value) (ha : IsT x a) (hb : IsT y b) : Tr (model prog w) A I (compareOp .NotEq a b) fun c h' => IsB (!decide (x = y)) c ∧ I h' := by
  obtain ⟨t, rfl⟩ := ha; obtain ⟨u, rfl⟩ := hb
  refine op_of fun s Q E q => ne_str (q _ s.toks ?_)
  show _ = Value.bool (!decide (x = y))
  congr 1
  rw [bne, Bool.not_eq_eq_eq_not, Bool.not_not, Bool.eq_iff_iff, beq_iff_eq, decide_eq_true_iff]
  exact ⟨fun e => by injection e with e; simpa using e, fun e => e ▸ rfl⟩
theorem t_iadd {x y : List Nat} (hz : x.length + y.length ≤ 1000) (a b : Value) (ha : IsT x a) (hb : IsT y b) : Tr (model prog w) A I (inplaceOp .Add a b) fun c h' => IsT (x ++ y) c ∧ I h' := by
  obtain ⟨t, rfl⟩ := ha; obtain ⟨u, rfl⟩ := hb
  refine op_of fun s Q E q => PyProof.Rows.iadd_str (fun t' tk => q _ tk ⟨t', ?_⟩) (by unfold sizeLine; show x.toArray.size + y.toArray.size ≤ _; simp; omega)
  show Value.str _ _ = Value.str _ _
  congr 1
  show Str.mk (x.toArray ++ y.toArray) = _
  simp
theorem n_iadd {x y : Nat} (a b : Value) (ha : IsN x a) (hb : IsN y b) : Tr (model prog w) A I (inplaceOp .Add a b) fun c h' => IsN (x + y) c ∧ I h' := by
  obtain ⟨t, rfl⟩ := ha; obtain ⟨u, rfl⟩ := hb
  exact op_of fun s Q E q => wpAny_iadd_int (q _ _ ⟨_, rfl⟩)
end
section
variable {prog : Program} {w : World} {A : Around} {env : Env} {h₀ : Heap} {L : Addr} {cs : List (Str × Addr)} {m cm : Str → Option Value} {led : Ledger}
/-- x op= e, a local -/
theorem Ex.augW {K : Frag} {x : Str} {p pos : Pos} {op : Operator} {e : Expr} {rest : List Stmt} {F : Flow → Heap → Prop} {u : Value} {V U : Value → Prop} (hm : m x = some u) (hx : Ev (model prog w) A (St K h₀ L cs m cm led) env e V)
    (ho : ∀ v, V v → Tr (model prog w) A (St K h₀ L cs m cm led) (inplaceOp op u v) fun c h' => U c ∧ St K h₀ L cs m cm led h') (k : ∀ c, U c → Ex (model prog w) A (St K h₀ L cs (up m x c) cm led) env rest F)
    (hL : env.locals = L := by rfl) (hk : env.scope.kind = .function := by rfl) (hl : env.kindOf x = some .local := by rfl) :
    Ex (model prog w) A (St K h₀ L cs m cm led) env (.AugAssign (.Name x p) op e pos :: rest) F := fun h hh => Run.mk fun s Q E hs q => by
  refine wpAny_execs_cons (wpAny_AugAssign_Name (wpAny_loadName_local hk hl (hs ▸ hL ▸ hh.fr.ns) hm ((hx h hh).bindK hs fun v h1 k1 r1 => (ho v r1.1 h1 r1.2).bindK rfl fun c h2 k2 r2 => ?_)))
  refine wpAny_storeName_local hl (hL ▸ r2.2.fr.ns) (fun h' hn hs2 => ?_) (by show (env.scope.kind == .class || (env.scope.kind == .module && env.locals != env.globals)) = false; rw [hk]; rfl)
  exact (k c r2.1 h' (r2.2.setL (hL ▸ hn) (hL ▸ hs2))).bindK rfl q
/-- o.name op= e -/
theorem Ex.augAttrW {o e : Expr} {name : Str} {pos' pos : Pos} {op : Operator} {rest : List Stmt} {F : Flow → Heap → Prop} {x dx : Addr} {f : Str → Option Value} {kz : Nat} {u : Value} {V U : Value → Prop} (i j : Nat) (hx : Ev (model prog w) A (St (KK w) h₀ L cs m cm led) env o (IsR x))
    (hi : led[i]? = some (x, fun o => o = instObj 52 dx)) (hj : led[j]? = some (dx, AttrD f kz)) (ha : OwnAttr (KK w) name) (hf : f name = some u) (hd : handedIn u = true) (hy : ∃ y, f y = none) (hz : kz < 900) (hv : Ev (model prog w) A (St (KK w) h₀ L cs m cm led) env e V)
    (ho : ∀ v, V v → Tr (model prog w) A (St (KK w) h₀ L cs m cm led) (inplaceOp op u v) fun c h' => U c ∧ St (KK w) h₀ L cs m cm led h')
    (k : ∀ c, U c → Ex (model prog w) A (St (KK w) h₀ L cs m cm (led.set j (dx, AttrD (fun y => if y = name then some c else f y) kz))) env rest F) :
    Ex (model prog w) A (St (KK w) h₀ L cs m cm led) env (.AugAssign (.Attribute o name pos') op e pos :: rest) F := fun h hh => Run.mk fun s Q E hs q => by
  refine wpAny_execs_cons (wpAny_AugAssign_AttributeAny ((hx h hh).bindK hs fun ov h1 k1 r1 => ?_))
  obtain ⟨ro, S1⟩ := r1
  cases ro
  obtain ⟨es, n, I, _, hf', _⟩ := S1.inst hi hj
  refine get_own (attr := none) S1.fr S1.wd.1 I ha.get (i_dict w) ha.find rfl ((hf' name).trans (congrArg some hf)) hd ?_
  refine (hv h1 S1).bindK rfl fun v h2 k2 r2 => (ho v r2.1 h2 r2.2).bindK rfl fun c h3 k3 r3 => ?_
  refine (set_attr i j hi hj ha hy hz h3 r3.2).bindK rfl fun _ h4 k4 S4 => ?_
  rw [if_neg (by rw [hf]; exact fun e => nomatch e)] at S4
  exact (k c r3.1 h4 S4).bindK rfl q
end
/-- the attributes of a reader -/
def lexF (vl vi vw vp : Value) (y : Str) : Option Value :=
  if y = PySem.Str.ofString "pushback" then some vp else if y = PySem.Str.ofString "whitespace" then some vw else if y = PySem.Str.ofString "instream" then some vi else if y = PySem.Str.ofString "lineno" then some vl else none
theorem lexF_none (vl vi vw vp : Value) : ∃ y, lexF vl vi vw vp y = none := ⟨PySem.Str.ofString "", by rfl⟩
theorem lexF_lineno (vl vi vw vp v : Value) : (fun y => if y = PySem.Str.ofString "lineno" then some v else lexF vl vi vw vp y) = lexF v vi vw vp := by
  funext y
  unfold lexF
  by_cases h : y = PySem.Str.ofString "lineno"
  · subst h; rfl
  · simp only [h, if_false]
theorem lexF_white (vl vi vw vp v : Value) : (fun y => if y = PySem.Str.ofString "whitespace" then some v else lexF vl vi vw vp y) = lexF vl vi v vp := by
  funext y
  unfold lexF
  by_cases h : y = PySem.Str.ofString "whitespace"
  · subst h; rfl
  · simp only [h, if_false]
end Mine

open PySem PySem.W PyProof.Rows
set_option maxRecDepth 100000
namespace Mine
open PySem PySem.W PySem.Calls PyProof.Rows
/-- a function object st whose attribute read is the function object lam -/
def FnR (st lam : Addr) (ol : Obj) (h : Heap) : Prop :=
  (∃ sdx fd sl m, h.get? st = some ⟨.type "function", some sdx, .func fd, sl⟩ ∧ h.Ns sdx m ∧ m (PySem.Str.ofString "read") = some (.ref lam)) ∧ h.get? lam = some ol ∧ ∃ fdl, ol.data = .func fdl
theorem FnR.ext {st lam : Addr} {ol : Obj} {h h' : Heap} (x : FnR st lam ol h) (k : Ext h h') : FnR st lam ol h' := by
  obtain ⟨⟨sdx, fd, sl, m, h1, h2, h3⟩, h4, h5⟩ := x
  exact ⟨⟨sdx, fd, sl, m, k _ _ h1, h2.keeps k, h3⟩, k _ _ h4, h5⟩
def Signs (rs : List Nat) (vs : List Value) : Prop := AllV (rs.map fun c => IsStr ⟨#[c]⟩) vs
section
variable {prog : Program} {w : World} {K : Frag} {A : Around} {env : Env} {h₀ : Heap} {L : Addr} {cs : List (Str × Addr)} {m cm : Str → Option Value} {led : Ledger} {C : Value → Ledger → Prop}
theorem W.read {o e : Expr} {apos pos : Pos} {st lam : Addr} {ol : Obj} {V : Value → Prop} (ho : Ev (model prog w) A (St K h₀ L cs m cm led) env o (IsR st)) (hf : ∀ h, St K h₀ L cs m cm led h → FnR st lam ol h)
    (hx : Ev (model prog w) A (St K h₀ L cs m cm led) env e V) (hc : ∀ u, V u → TrS (model prog w) A K h₀ L cs m cm led (call (.ref lam) [u] []) C)
    (he : eval (.Call (.Attribute o "read" apos) [e] [] pos) env = (do
      let ov ← eval o env
      standAt apos.atName
      let (f, first) ← holding [ov] (getMethod ov "read" (do return (← importBound o env).getD true))
      callWith pos f first (backTo pos (starEach [e] env)) []) := by rfl) (he2 : starEach [e] env = (false, eval e env) :: starEach [] env := by rfl) :
    TrS (model prog w) A K h₀ L cs m cm led (eval (.Call (.Attribute o "read" apos) [e] [] pos) env) C := fun h S => Run.mk fun s Q E hs q => by
  refine MethodCall_ (he := he) ((ho h S).bindK hs fun ov h1 k1 r1 => ?_)
  obtain ⟨ro, S1⟩ := r1
  cases ro
  obtain ⟨⟨sdx, fd, sl, m', h2, h3, h4⟩, h5, fdl, h6⟩ := hf _ S1
  refine fn_method h2 h3 h4 ?_
  refine callWith_function (o := ol) (fd := fdl) ?_
  have hxx : Tr (model prog w) A (St K h₀ L cs m cm led) (spliced (backTo pos (starEach [e] env))) _ := Es.cons (he := he2) hx Es.nil pos
  have ha : backTo pos (starEach [e] env) = (false, eval e env) :: backTo pos (starEach [] env) := by rw [he2]; rfl
  rw [ha] at hxx ⊢
  refine evalArgs_plain ((hxx h1 S1).bindK rfl fun vs h2 k2 r2 => ?_)
  obtain ⟨hv, S2⟩ := r2
  match vs, hv with
  | [u], hu => exact ⟨⟨(hf _ S2).2.1, h6⟩, (hc u hu.1 h2 S2).bindK rfl q⟩
end
/-- what a reading of one sign leaves -/
def LamR (rl : Addr) (rs : List Nat) (v : Value) (mu' news : Ledger) : Prop := news = [] ∧ IsT (rs.take 1) v ∧ ∃ rvs', mu' = [(rl, PL rvs')] ∧ Signs (rs.drop 1) rvs'
def LamC (prog : Program) (w : World) (lam rl : Addr) (X : Heap → Prop) : Prop :=
  ∀ (A : Around) (rs : List Nat) (rvs : List Value) (u : Value), Room A 2 → A.handled = none → Signs rs rvs → rs.length ≤ 1000 → IsN 1 u → Cn prog w (KK w) A (.ref lam) [u] (Mpre (KK w) [(rl, PL rvs)] X) (MutR [(rl, PL rvs)] (LamR rl rs))
/-- what stands behind a reader -/
structure Back_ (prog : Program) (w : World) (st lam rl : Addr) (X : Heap → Prop) : Prop where
  ext : ∀ h h', X h → Ext h h' → X h'
  fn : ∃ ol, ∀ h, X h → FnR st lam ol h
  lam : LamC prog w lam rl X
def rdMu (rl x dx st : Addr) (rvs : List Value) (vl vw vp : Value) : Ledger := [(rl, PL rvs), (x, fun o => o = instObj 52 dx), (dx, AttrD (lexF vl (.ref st) vw vp) 4)]
def RdR (rl x dx st : Addr) (vw vp : Value) (rs : List Nat) (n : Nat) (v : Value) (mu' news : Ledger) : Prop :=
  news = [] ∧ IsT (rs.take 1) v ∧ ∃ rvs' vl', mu' = rdMu rl x dx st rvs' vl' vw vp ∧ Signs (rs.drop 1) rvs' ∧ IsN (n + (rs.take 1).count 10) vl'
section
variable {prog : Program} {w : World} {A : Around}
theorem cn_read_char {st lam rl x dx : Addr} {X : Heap → Prop} {rs : List Nat} {rvs : List Value} {vl vw vp : Value} {n : Nat} (B : Back_ prog w st lam rl X) (r : Room A 3) (hh : A.handled = none) (hr : Signs rs rvs) (hz : rs.length ≤ 1000) (hl : IsN n vl) :
    CnC prog w (KK w) A (.ref 35) [.ref x] (Mpre (KK w) (rdMu rl x dx st rvs vl vw vp) X) (MutR (rdMu rl x dx st rvs vl vw vp) (RdR rl x dx st vw vp rs n)) := by
  obtain ⟨ol, hol⟩ := B.fn
  refine CnC.of_bodyM (binds := [(PySem.Str.ofString "self", .ref x)]) B.ext r (kk_look (by k_is)) (kk_code (by k_is)) rfl rfl (by decide) rfl fun h₀ L WD hX => ?_
  refine Ex.setW (W.read (Ev.attr 1 2 (Ev.locS rfl) rfl rfl rfl rfl (a_instream w)) (fun h S => (hol _ hX).ext S.base) (Ev.nat (n := 1)) fun u hu => Cn.mut (mu := [(rl, PL rvs)]) (led := [_, _]) (B.lam _ rs rvs u ((r.deeper _).less (by decide)) hh hr hz hu) (fun h S => B.ext _ _ hX S.hidden) fun v mu' news hP => ?_)
  obtain ⟨rfl, hv, rvs', rfl, hr'⟩ := hP
  refine Ex.ifW (X := fun led' => ∃ vl', led' = rdMu rl x dx st rvs' vl' vw vp ∧ IsN (n + (rs.take 1).count 10) vl') (b := decide (rs.take 1 = [10])) (Tv.cmp (Ev.mono (V := IsV v) (Ev.locS up_self) fun _ e => e ▸ hv) Ev.text t_eq) (fun e => ?_) (fun e => ?_) ?_
  · refine Ex.augAttrW 1 2 (Ev.locS rfl) rfl rfl (a_lineno w) rfl ?_ (lexF_none _ _ _ _) (by decide) (Ev.nat (n := 1)) (fun v hv => n_iadd _ _ hl hv) fun c hc => ?_
    · obtain ⟨t, rfl⟩ := hl; rfl
    refine Ex.castW (led' := rdMu rl x dx st rvs' c vw vp) (congrArg (fun f => [(rl, PL rvs'), (x, fun o => o = instObj 52 dx), (dx, AttrD f 4)]) (lexF_lineno vl (.ref st) vw vp c)) ?_
    exact Ex.nil fun g S => ⟨_, ⟨c, rfl, by rw [of_decide_eq_true e]; exact hc⟩, S⟩
  · refine Ex.nil fun g S => ⟨_, ⟨vl, rfl, ?_⟩, S⟩
    have e := of_decide_eq_false e
    rw [List.count_eq_zero.mpr]
    · exact hl
    · intro h
      match rs, h, e with
      | a :: _, h, e => exact e (by simp at h; rw [← h]; rfl)
  · rintro led' ⟨vl', rfl, hl'⟩
    exact Ex.retW (W.ev (Ev.locS up_self) fun u hu h' S => ⟨u, rdMu rl x dx st rvs' vl' vw vp, [], _, _, .inl rfl, ⟨rfl, hu ▸ hv, rvs', vl', rfl, hr', hl'⟩, rfl, S⟩)
end
end Mine

open PySem PySem.W PyProof.Rows
set_option maxRecDepth 100000
namespace Mine
open PySem PySem.W PySem.Calls PyProof.Rows
/-- the signs that are left to a reader, and its line -/
structure Rd (N : Nat) (rs : List Nat) (rvs : List Value) (vl : Value) : Prop where
  s : Signs rs rvs
  n : ∃ n, IsN n vl ∧ n + rs.count 10 = N
  z : rs.length ≤ 1000
def itP (q : Addr) (t0 : Tok) : Bool → Obj → Prop
  | false, o => o = ciObj (.ref q) (.str ⟨#[]⟩ t0) false
  | true, o => o = ciObj .none .none true
theorem Rd.step {N : Nat} {rs : List Nat} {rvs : List Value} {vl : Value} {rvs' : List Value} {vl' : Value} {n : Nat} (h : n + rs.count 10 = N) (hz : rs.length ≤ 1000) (hs : Signs (rs.drop 1) rvs') (hn : IsN (n + (rs.take 1).count 10) vl') : Rd N (rs.drop 1) rvs' vl' := by
  refine ⟨hs, ⟨_, hn, ?_⟩, by rw [List.length_drop]; omega⟩
  rw [Nat.add_assoc, ← List.count_append, List.take_append_drop]
  exact h
section
variable {prog : Program} {w : World} {A : Around} {env : Env} {h₀ : Heap} {L : Addr} {cs : List (Str × Addr)} {m cm : Str → Option Value} {led : Ledger} {C : Value → Ledger → Prop}
  {st lam rl x dx : Addr} {X : Heap → Prop} {rs : List Nat} {rvs : List Value} {vl vw vp : Value} {N : Nat}
theorem rd_call (B : Back_ prog w st lam rl X) (hX : X h₀) (r : Room A 3) (hh : A.handled = none) (R : Rd N rs rvs vl)
    (k : ∀ v rvs' vl', IsT (rs.take 1) v → Rd N (rs.drop 1) rvs' vl' → C v (rdMu rl x dx st rvs' vl' vw vp ++ led)) :
    TrS (model prog w) A (KK w) h₀ L cs m cm (rdMu rl x dx st rvs vl vw vp ++ led) (call (.ref 35) [.ref x] []) C := by
  obtain ⟨n, hn, hN⟩ := R.n
  refine Cn.mut (cn_read_char B r hh R.s R.z hn).cn (fun h S => B.ext _ _ hX S.hidden) fun v mu' news hP => ?_
  obtain ⟨rfl, hv, rvs', vl', rfl, hs, hl⟩ := hP
  exact k v rvs' vl' hv (Rd.step (rvs := rvs) (vl := vl) hN R.z hs hl)
theorem rd_next {it q : Addr} {t0 : Tok} {D : Ledger → Prop} (B : Back_ prog w st lam rl X) (hX : X h₀) (r : Room A 4) (hh : A.handled = none) (R : Rd N rs rvs vl)
    (ks : ∀ c rs' v rvs' vl', rs = c :: rs' → IsT [c] v → Rd N rs' rvs' vl' → C v (rdMu rl x dx st rvs' vl' vw vp ++ ((it, itP q t0 false) :: (q, fun o => o = methodObj (.ref 35) (.ref x)) :: led)))
    (kn : ∀ rvs' vl', rs = [] → Rd N [] rvs' vl' → D (rdMu rl x dx st rvs' vl' vw vp ++ ((it, itP q t0 true) :: (q, fun o => o = methodObj (.ref 35) (.ref x)) :: led))) :
    Tr (model prog w) A (St (KK w) h₀ L cs m cm (rdMu rl x dx st rvs vl vw vp ++ ((it, itP q t0 false) :: (q, fun o => o = methodObj (.ref 35) (.ref x)) :: led))) (pyNext (.ref it)) fun r h' => match r with
      | some v => ∃ led', C v led' ∧ St (KK w) h₀ L cs m cm led' h'
      | none => ∃ led', D led' ∧ St (KK w) h₀ L cs m cm led' h' := by
  obtain ⟨n, hn, hN⟩ := R.n
  have r1 : Room A.in1 3 := ⟨by have := r.d; show A.depth + 3 ≤ 900; omega, by have := r.u; show A.units + 1 + 10 * 3 ≤ 9000; omega⟩
  refine Tr.mono (Tr.next (C := fun r led' => match r with | some v => C v led' | none => D led') (sv := ⟨#[]⟩) (t0 := t0) (q := q) (g := 35) (x := x) 0 1 hh rfl rfl (kk_fn (by k_is)) (cn_read_char (vw := vw) (vp := vp) (dx := dx) B r1 hh R.s R.z hn) (fun h S => B.ext _ _ hX S.hidden) (fun v mu' news hP => ⟨hP.1, by obtain ⟨_, ⟨t, e⟩, _⟩ := hP; exact ⟨_, t, e⟩⟩) (fun y t mu' hP hy => ?_) (fun t mu' hP => ?_)) fun r h' rr => ?_
  · obtain ⟨_, hv, rvs', vl', rfl, hs, hl⟩ := hP
    have hv' := hv
    obtain ⟨t', e⟩ := hv
    cases e
    match rs, R, hN, hs, hl, hy, hv' with
    | [], _, _, _, _, hy, _ => exact absurd rfl hy
    | c :: rs', R, hN, hs, hl, _, hv' => exact ks c rs' _ rvs' vl' rfl hv' (Rd.step (rvs := rvs) (vl := vl) hN R.z hs hl)
  · obtain ⟨_, ⟨t', e⟩, rvs', vl', rfl, hs, hl⟩ := hP
    match rs, R, hN, hs, hl, e with
    | [], R, hN, hs, hl, _ => exact kn rvs' vl' rfl (Rd.step (rvs := rvs) (vl := vl) hN R.z hs hl)
    | c :: rs', _, _, _, _, e => cases e
  · cases r with
    | none => exact rr
    | some v => exact rr
end
end Mine

open PySem PySem.W PyProof.Rows
set_option maxRecDepth 100000
namespace Mine
open PySem PySem.W PySem.Calls PyProof.Rows
/-! the reading of a word, without the program -/
def readP (stop : Nat → Bool) : List Nat → List Nat × List Nat
  | [] => ([], [])
  | [c] => if stop c = true then ([], []) else if c = 92 then ([], []) else ([c], [])
  | c :: d :: t => if stop c = true then ([], d :: t) else if c = 92 then (d :: (readP stop t).1, (readP stop t).2) else (c :: (readP stop (d :: t)).1, (readP stop (d :: t)).2)
theorem readP_nil (stop : Nat → Bool) : readP stop [] = ([], []) := by rw [readP]
theorem readP_stop {stop : Nat → Bool} {c : Nat} (h : stop c = true) : ∀ t, readP stop (c :: t) = ([], t)
  | [] => by rw [readP, if_pos h]
  | d :: t => by rw [readP, if_pos h]
theorem readP_esc {stop : Nat → Bool} (h : stop 92 = false) : ∀ t, readP stop (92 :: t) = (t.take 1 ++ (readP stop (t.drop 1)).1, (readP stop (t.drop 1)).2)
  | [] => by
    rw [readP, if_neg (by rw [h]; decide), if_pos rfl]
    show _ = ([] ++ (readP stop []).1, (readP stop []).2)
    rw [readP_nil]; rfl
  | d :: t => by rw [readP, if_neg (by rw [h]; decide), if_pos rfl]; rfl
theorem readP_plain {stop : Nat → Bool} {c : Nat} (h : stop c = false) (hc : c ≠ 92) : ∀ t, readP stop (c :: t) = (c :: (readP stop t).1, (readP stop t).2)
  | [] => by rw [readP_nil, readP, if_neg (by rw [h]; decide), if_neg hc]
  | d :: t => by rw [readP, if_neg (by rw [h]; decide), if_neg hc]
theorem readP_len (stop : Nat → Bool) : ∀ (n : Nat) (t : List Nat), t.length ≤ n → (readP stop t).1.length ≤ t.length
  | _, [], _ => by rw [readP_nil]; exact Nat.zero_le _
  | 0, _ :: _, h => absurd h (by simp)
  | n + 1, c :: t, h => by
    have h' : t.length ≤ n := by simpa using h
    cases hs : stop c with
    | true => rw [readP_stop hs]; exact Nat.zero_le _
    | false =>
      by_cases hc : c = 92
      · subst hc
        rw [readP_esc hs]
        have := readP_len stop n (t.drop 1) (by rw [List.length_drop]; omega)
        rw [List.length_drop] at this
        simp only [List.length_append, List.length_take, List.length_cons]
        omega
      · rw [readP_plain hs hc]
        have := readP_len stop n t h'
        simp only [List.length_cons]
        omega
def tokP (white : List Nat) : List Nat → List Nat × List Nat
  | [] => ([], [])
  | c :: t => if decide (c ∈ white) = true then tokP white t else if c = 34 then readP (fun c => decide (c = 34)) t else readP (fun c => decide (c ∈ white)) (c :: t)
theorem tokP_len (white : List Nat) : ∀ t : List Nat, (tokP white t).1.length ≤ t.length
  | [] => Nat.zero_le _
  | c :: t => by
    rw [tokP]
    split
    · exact Nat.le_succ_of_le (tokP_len white t)
    · split
      · exact Nat.le_succ_of_le (readP_len _ _ t (Nat.le_refl _))
      · exact readP_len _ _ (c :: t) (Nat.le_refl _)
section
variable {prog : Program} {w : World} {K : Frag} {A : Around} {I : Heap → Prop} {env : Env}
theorem Ex.ifEnd {test : Expr} {body orelse : List Stmt} {pos : Pos} {b : Bool} {F : Flow → Heap → Prop} (t : Tv (model prog w) A I env test b) (hb : b = true → Ex (model prog w) A I env body F) (ho : b = false → Ex (model prog w) A I env orelse F) :
    Ex (model prog w) A I env [.If test body orelse pos] F := by
  have k : ∀ {ss}, Ex (model prog w) A I env ss F → Ex (model prog w) A I env ss (nx (F .next) F) := fun x => Tr.mono x fun fl h r => by cases fl <;> exact r
  exact Ex.if_ (J := F .next) t (fun e => k (hb e)) (fun e => k (ho e)) (Ex.nil fun _ h => h)
end
section
variable {prog : Program} {w : World} {K : Frag} {A : Around} {env : Env} {h₀ : Heap} {L : Addr} {cs : List (Str × Addr)} {m cm : Str → Option Value} {led : Ledger}
theorem Ex.ifM {test : Expr} {body orelse rest : List Stmt} {pos : Pos} {b : Bool} {F : Flow → Heap → Prop} (X : (Str → Option Value) → Ledger → Prop) (t : Tv (model prog w) A (St K h₀ L cs m cm led) env test b)
    (hb : b = true → Ex (model prog w) A (St K h₀ L cs m cm led) env body (nx (fun g => ∃ m' led', X m' led' ∧ St K h₀ L cs m' cm led' g) F)) (ho : b = false → Ex (model prog w) A (St K h₀ L cs m cm led) env orelse (nx (fun g => ∃ m' led', X m' led' ∧ St K h₀ L cs m' cm led' g) F))
    (hr : ∀ m' led', X m' led' → Ex (model prog w) A (St K h₀ L cs m' cm led') env rest F) : Ex (model prog w) A (St K h₀ L cs m cm led) env (.If test body orelse pos :: rest) F :=
  Ex.if_ t hb ho fun g ⟨m', led', hX, S⟩ => hr m' led' hX g S
end
end Mine

open PySem PySem.W PyProof.Rows
set_option maxRecDepth 100000
namespace Mine
open PySem PySem.W PySem.Calls PyProof.Rows
/-- the objects of a reader with its list of words pushed back -/
def lxMu (rl x dx st pb : Addr) (rvs : List Value) (vl vw : Value) (pvs : List Value) : Ledger := rdMu rl x dx st rvs vl vw (.ref pb) ++ [(pb, PL pvs)]
def TokW (rl x dx st pb : Addr) (rvs : List Value) (vl vw : Value) (p : Value) (ps : List Value) (v : Value) (mu' news : Ledger) : Prop := news = [] ∧ v = p ∧ mu' = lxMu rl x dx st pb rvs vl vw ps
section
variable {prog : Program} {w : World} {A : Around}
theorem cn_tok_wait {rl x dx st pb : Addr} {X : Heap → Prop} {rvs : List Value} {vl vw p : Value} {ps : List Value} (hX : ∀ h h', X h → Ext h h' → X h') (r : Room A 1) (hz : ps.length ≤ 1000) :
    CnC prog w (KK w) A (.ref 42) [.ref x] (Mpre (KK w) (lxMu rl x dx st pb rvs vl vw (p :: ps)) X) (MutR (lxMu rl x dx st pb rvs vl vw (p :: ps)) (TokW rl x dx st pb rvs vl vw p ps)) := by
  refine CnC.of_bodyM (binds := [(PySem.Str.ofString "self", .ref x)]) hX r (kk_look (by k_is)) (kk_code (by k_is)) rfl rfl (by decide) rfl fun h₀ L WD hX => ?_
  refine Ex.ifW (X := fun _ => False) (b := true) (Tv.plain (Ev.attr 1 2 (Ev.locS rfl) rfl rfl rfl rfl (a_pushback w)) (tr_list (vs := p :: ps) (fun g S => (S.list (i := 3) rfl).isList) (by show ps.length + 1 ≤ 1000000; omega))) (fun _ => ?_) (fun e => nomatch e) (fun _ h => h.elim)
  refine Ex.retW (W.lmeth1 (id := "list.pop") 3 (Ev.attr 1 2 (Ev.locS rfl) rfl rfl rfl rfl (a_pushback w)) rfl F.slot_list_pop rfl (W.ev Ev.int fun u hu => W.popI (v := p) (vs := ps) 3 hu rfl (by show ps.length + 1 ≤ 1000000; omega) fun h' S => ?_))
  exact ⟨p, lxMu rl x dx st pb rvs vl vw ps, [], _, _, .inl rfl, ⟨rfl, rfl, rfl⟩, rfl, S⟩
end
end Mine

open PySem PySem.W PyProof.Rows
set_option maxRecDepth 100000
namespace Mine
open PySem PySem.W PySem.Calls PyProof.Rows
structure MOk (x it : Addr) (vt : Value) (m : Str → Option Value) : Prop where
  self : m (PySem.Str.ofString "self") = some (.ref x)
  fit : m (PySem.Str.ofString "fiter") = some (.ref it)
  tok : m (PySem.Str.ofString "token") = some vt
theorem MOk.ch {x it : Addr} {vt v : Value} {m : Str → Option Value} (h : MOk x it vt m) : MOk x it vt (up m (PySem.Str.ofString "ch") v) := ⟨(up_ne (by decide)).trans h.self, (up_ne (by decide)).trans h.fit, (up_ne (by decide)).trans h.tok⟩
theorem MOk.set {x it : Addr} {vt v : Value} {m : Str → Option Value} (h : MOk x it vt m) : MOk x it v (up m (PySem.Str.ofString "token") v) := ⟨(up_ne (by decide)).trans h.self, (up_ne (by decide)).trans h.fit, up_self⟩
/-- a state of the loops -/
structure LZ where
  rs : List Nat
  rvs : List Value
  vl : Value
  tok : List Nat
  vt : Value
  e : Bool
  m : Str → Option Value
def LZ.led (rl x dx st pb q it : Addr) (t0 : Tok) (vw : Value) (z : LZ) : Ledger := rdMu rl x dx st z.rvs z.vl vw (.ref pb) ++ ((it, itP q t0 z.e) :: (q, fun o => o = methodObj (.ref 35) (.ref x)) :: [(pb, PL [])])
structure LOk (x it : Addr) (N : Nat) (z : LZ) : Prop where
  m : MOk x it z.vt z.m
  t : IsT z.tok z.vt
  rd : Rd N z.rs z.rvs z.vl
/-- the outer loop -/
structure ROut (x it : Addr) (N : Nat) (white : List Nat) (W : List Nat × List Nat) (k : Nat) (z : LZ) : Prop extends LOk x it N z where
  live : z.e = false → z.tok = [] ∧ tokP white z.rs = W ∧ k = z.rs.length + 1
  done : z.e = true → z.tok = W.1 ∧ z.rs = [] ∧ W.2 = [] ∧ k = 0
/-- an inner loop -/
structure RIn (x it : Addr) (N : Nat) (stop : Nat → Bool) (W : List Nat × List Nat) (k : Nat) (z : LZ) : Prop extends LOk x it N z where
  e : z.e = false
  w1 : z.tok ++ (readP stop z.rs).1 = W.1
  w2 : (readP stop z.rs).2 = W.2
  k : k = z.rs.length
def TokR (rl x dx st pb : Addr) (vw : Value) (N : Nat) (W : List Nat × List Nat) (v : Value) (mu' news : Ledger) : Prop :=
  news = [] ∧ IsT W.1 v ∧ ∃ rvs' vl', mu' = lxMu rl x dx st pb rvs' vl' vw [] ∧ Rd N W.2 rvs' vl'
section
variable {K : Frag} {h₀ : Heap} {L : Addr} {cs : List (Str × Addr)} {m cm : Str → Option Value}
/-- how a word is given back -/
theorem St.tokR {h : Heap} {rl x dx st pb q it : Addr} {t0 : Tok} {vw v : Value} {N : Nat} {W : List Nat × List Nat} {rvs rvs0 : List Value} {vl vl0 : Value} {e : Bool} (S : St K h₀ L cs m cm (rdMu rl x dx st rvs vl vw (.ref pb) ++ ((it, itP q t0 e) :: (q, fun o => o = methodObj (.ref 35) (.ref x)) :: [(pb, PL [])])) h)
    (hv : IsT W.1 v) (R : Rd N W.2 rvs vl) : ∃ v' mu' news m' cm', Back (.ret v) v' ∧ TokR rl x dx st pb vw N W v' mu' news ∧ ads mu' = ads (lxMu rl x dx st pb rvs0 vl0 vw []) ∧ St K h₀ L cs m' cm' (news ++ mu') h :=
  ⟨v, lxMu rl x dx st pb rvs vl vw [], [], m, cm, .inl rfl, ⟨rfl, hv, rvs, vl, rfl, R⟩, rfl, by
    refine S.sub (fun p hp => ⟨p, ?_, rfl, fun _ h => h⟩) ?_
    · rcases List.mem_append.mp (show p ∈ rdMu rl x dx st rvs vl vw (.ref pb) ++ [(pb, PL [])] from hp) with hp | hp
      · exact List.mem_append_left _ hp
      · exact List.mem_append_right _ (List.mem_cons_of_mem _ (List.mem_cons_of_mem _ hp))
    · have nd := S.nd
      rw [ads_append] at nd
      show (ads (rdMu rl x dx st rvs vl vw (.ref pb) ++ [(pb, PL [])])).Nodup
      rw [ads_append]
      refine nd.sublist (List.Sublist.append_left (List.Sublist.cons _ (List.Sublist.cons _ (List.Sublist.refl _))) _)⟩
end
/-- a sign of a word was taken, by itself or behind a backslash -/
structure XM (rl x dx st pb q it : Addr) (t0 : Tok) (vw : Value) (N : Nat) (vt : Value) (stop : Nat → Bool) (c : Nat) (rs' : List Nat) (m' : Str → Option Value) (led' : Ledger) (add rs2 : List Nat) (rvs2 : List Value) (vl2 v2 : Value) : Prop where
  m : MOk x it vt m'
  ch : m' (PySem.Str.ofString "ch") = some v2
  v : IsT add v2
  n : add.length ≤ 1
  rd : Rd N rs2 rvs2 vl2
  z : rs2.length ≤ rs'.length
  r : readP stop (c :: rs') = (add ++ (readP stop rs2).1, (readP stop rs2).2)
  l : led' = rdMu rl x dx st rvs2 vl2 vw (.ref pb) ++ ((it, itP q t0 false) :: (q, fun o => o = methodObj (.ref 35) (.ref x)) :: [(pb, PL [])])
section
variable {prog : Program} {w : World} {A : Around}
theorem W.iter2 {K : Frag} {h₀ : Heap} {L : Addr} {cs : List (Str × Addr)} {m cm : Str → Option Value} {led : Ledger} {C : Value → Ledger → Prop} {q x : Addr} {v0 : Value} (i : Nat) (hi : led[i]? = some (q, fun o => o = methodObj (.ref 35) (.ref x))) (hv : IsT [] v0) (k : ∀ it t0, C (.ref it) ((it, itP q t0 false) :: led)) :
    TrS (model prog w) A K h₀ L cs m cm led (call (.builtin "iter") [.ref q, v0] []) C := fun h S => Run.mk fun s Q E hs q' => by
  subst hs
  obtain ⟨t, rfl⟩ := hv
  obtain ⟨o, ho, rfl⟩ := S.has hi
  exact Mine.iter2 ho (q' _ _ _ ⟨_, k _ t, S.add (push_ext _ _) (push_none _) (Heap.get?_push_size _ rfl) rfl⟩)
theorem cn_tok_read {rl x dx st lam pb : Addr} {X : Heap → Prop} {rs : List Nat} {rvs : List Value} {vl vw : Value} {N : Nat} {white : List Nat} (B : Back_ prog w st lam rl X) (r : Room A 6) (hh : A.handled = none) (R : Rd N rs rvs vl) (hz : rs.length ≤ 900) (hw : IsT white vw) :
    CnC prog w (KK w) A (.ref 42) [.ref x] (Mpre (KK w) (lxMu rl x dx st pb rvs vl vw []) X) (MutR (lxMu rl x dx st pb rvs vl vw []) (TokR rl x dx st pb vw N (tokP white rs))) := by
  refine CnC.of_bodyM (binds := [(PySem.Str.ofString "self", .ref x)]) B.ext r (kk_look (by k_is)) (kk_code (by k_is)) rfl rfl (by decide) rfl fun h₀ L WD hX => ?_
  refine Ex.ifW (X := fun led' => led' = lxMu rl x dx st pb rvs vl vw []) (b := false) (Tv.plain (Ev.attr 1 2 (Ev.locS rfl) rfl rfl rfl rfl (a_pushback w)) (tr_list (vs := []) (fun g S => (S.list (i := 3) rfl).isList) (Nat.zero_le _))) (fun e => nomatch e) (fun _ => Ex.nil fun g S => ⟨_, rfl, S⟩) ?_
  rintro _ rfl
  refine Ex.setW (W.ev (Ev.text (l := [])) fun vt hvt => ?_)
  refine Ex.setW (W.callB (Ev.builtin St.okk (g_iter w) boot_iter (by decide)) (Es.one (W.attrM 1 2 (Ev.locS rfl) rfl rfl rfl (mb_read_char w) fun q => Es.one (W.ev (Ev.text (l := [])) fun v0 hv0 => Es.done (W.iter2 0 rfl hv0 fun it t0 => ?_)))))
  refine Ex.permW (led' := LZ.led rl x dx st pb q it t0 vw ⟨rs, rvs, vl, [], vt, false, fun _ => none⟩) (List.Perm.append_right [(pb, PL [])] (List.perm_append_comm (l₁ := [_, _]) (l₂ := rdMu rl x dx st rvs vl vw (.ref pb)))) ?_
  refine Ex.forV LZ.m (fun _ => _) (LZ.led rl x dx st pb q it t0 vw) (ROut x it N white (tokP white rs)) (rs.length + 1) ⟨rs, rvs, vl, [], vt, false, _⟩ ⟨⟨⟨rfl, rfl, rfl⟩, hvt, R⟩, fun _ => ⟨rfl, rfl, rfl⟩, fun e => nomatch e⟩ rfl rfl rfl (Ev.locS rfl) ⟨3, _, _, _, rfl⟩ fun k z H => ?_
  obtain ⟨rs1, rvs1, vl1, tok1, vt1, e1, m1⟩ := z
  cases e1 with
  | true =>
    refine Tr.mono (Tr.nextEnd (C := fun r led' => r = none ∧ led' = _) 3 hh rfl ⟨rfl, rfl⟩) fun r h' rr => ?_
    obtain ⟨_, ⟨rfl, rfl⟩, S⟩ := rr
    obtain ⟨d1, d2, d3, d4⟩ := H.done rfl
    exact ⟨_, Ex.retW (W.ev (Ev.locS H.m.tok) fun u hu h' S => S.tokR (hu ▸ d1 ▸ H.t) (d3 ▸ d2 ▸ H.rd)), S⟩
  | false =>
    obtain ⟨d1, d2, d3⟩ := H.live rfl
    have d1 : tok1 = [] := d1
    subst d1
    have d2 : tokP white rs1 = tokP white rs := d2
    have d3 : k = rs1.length + 1 := d3
    refine rd_next B hX ((r.deeper _).less (by decide)) hh H.rd (fun c rs' v rvs' vl' hrs hv R' => ?_) (fun rvs' vl' hrs R' => ?_)
    · have hrs : rs1 = c :: rs' := hrs
      rw [hrs, List.length_cons] at d3
      refine Ex.ifW (X := fun led' => led' = LZ.led rl x dx st pb q it t0 vw ⟨rs', rvs', vl', [], vt1, false, up m1 (PySem.Str.ofString "ch") v⟩ ∧ decide (c ∈ white) = false) (b := decide (c ∈ white)) (Tv.cmp (Ev.mono (V := IsV v) (Ev.locS up_self) fun _ e => e ▸ hv) (Ev.mono (V := IsV vw) (Ev.attr 1 2 (Ev.locS H.m.ch.self) rfl rfl rfl (by obtain ⟨t, rfl⟩ := hw; rfl) (a_whitespace w)) fun _ e => e ▸ hw) c_inT) (fun e => Ex.cont fun g S => ?_) (fun e => Ex.nil fun g S => ⟨_, ⟨rfl, e⟩, S⟩) ?_
      · refine ⟨rs'.length + 1, ⟨rs', rvs', vl', [], vt1, false, up m1 (PySem.Str.ofString "ch") v⟩, by omega, ⟨⟨H.m.ch, H.t, R'⟩, fun _ => ⟨rfl, ?_, rfl⟩, (fun e => nomatch e)⟩, S⟩
        rw [← d2, hrs, tokP, if_pos e]
      rintro _ ⟨rfl, hcw⟩
      have hcw' : ¬ (decide (c ∈ white) = true) := by rw [hcw]; decide
      refine Ex.ifEnd (b := decide ([c] = [34])) (Tv.cmp (Ev.mono (V := IsV v) (Ev.locS up_self) fun _ e => e ▸ hv) Ev.text t_eq) (fun ec => ?_) (fun ec => ?_)
      · have ec : c = 34 := by simpa using ec
        subst ec
        rw [hrs, tokP, if_neg hcw', if_pos rfl] at d2
        refine Ex.forV LZ.m (fun _ => _) (LZ.led rl x dx st pb q it t0 vw) (RIn x it N (fun c => decide (c = 34)) (tokP white rs)) rs'.length ⟨rs', rvs', vl', [], vt1, false, _⟩ ⟨⟨H.m.ch, H.t, R'⟩, rfl, d2 ▸ rfl, d2 ▸ rfl, rfl⟩ rfl rfl rfl (Ev.locS H.m.ch.fit) ⟨3, _, _, _, rfl⟩ fun k2 z2 H2 => ?_
        obtain ⟨rs3, rvs3, vl3, tok3, vt3, e3, m3⟩ := z2
        obtain rfl : e3 = false := H2.e
        have w1 : tok3 ++ (readP (fun c => decide (c = 34)) rs3).1 = (tokP white rs).1 := H2.w1
        have w2 : (readP (fun c => decide (c = 34)) rs3).2 = (tokP white rs).2 := H2.w2
        have w3 : k2 = rs3.length := H2.k
        have t3 : IsT tok3 vt3 := H2.t
        have wl := tokP_len white rs
        refine rd_next B hX ((r.deeper _).less (by decide)) hh H2.rd (fun c rs' v rvs' vl' hrs hv R' => ?_) (fun rvs' vl' hrs R' => ?_)
        · have hrs : rs3 = c :: rs' := hrs
          subst hrs
          rw [List.length_cons] at w3
          refine Ex.ifM (X := fun m' led' => ∃ add rs2 rvs2 vl2 v2, XM rl x dx st pb q it t0 vw N vt3 (fun c => decide (c = 34)) c rs' m' led' add rs2 rvs2 vl2 v2) (b := decide ([c] = [34])) (Tv.cmp (Ev.mono (V := IsV v) (Ev.locS up_self) fun _ e => e ▸ hv) Ev.text t_eq) (fun e => ?_) (fun e => ?_) ?_
          · rw [readP_stop (stop := (fun c => decide (c = 34))) (by simpa using e)] at w1 w2
            rw [List.append_nil] at w1
            exact Ex.retW (W.ev (Ev.locS H2.m.ch.tok) fun u hu h' S => S.tokR (hu ▸ w1 ▸ t3) (w2 ▸ R'))
          · have e' : (fun c => decide (c = 34)) c = false := (by simpa using e)
            refine Ex.ifEnd (b := decide ([c] = [92])) (Tv.cmp (Ev.mono (V := IsV v) (Ev.locS up_self) fun _ e => e ▸ hv) Ev.text t_eq) (fun ec => ?_) (fun ec => ?_)
            · have ec : c = 92 := by simpa using ec
              subst ec
              refine Ex.setW (W.callI0 1 2 (Ev.locS H2.m.ch.self) rfl rfl (m_read_char w) rfl (rd_call B hX ((r.deeper _).less (by decide)) hh R' fun v2 rvs2 vl2 hv2 R2 => Ex.nil fun g S => ⟨_, _, ⟨_, _, _, _, _, ⟨H2.m.ch.ch, up_self, hv2, by rw [List.length_take]; omega, R2, by rw [List.length_drop]; omega, readP_esc e' rs', rfl⟩⟩, S⟩))
            · have ec : c ≠ 92 := by simpa using ec
              exact Ex.nil fun g S => ⟨_, _, ⟨[c], rs', rvs', vl', v, ⟨H2.m.ch, up_self, hv, Nat.le_refl 1, R', Nat.le_refl _, readP_plain e' ec rs', rfl⟩⟩, S⟩
          rintro m4 led4 ⟨add, rs4, rvs4, vl4, v4, Y⟩
          rw [Y.r] at w1 w2
          rw [← List.append_assoc] at w1
          refine Ex.castW Y.l (Ex.augW (U := IsT (tok3 ++ add)) Y.m.tok (Ev.mono (V := IsV v4) (Ev.locS Y.ch) fun _ e => e ▸ Y.v) (fun vv hvv => t_iadd ?_ _ _ t3 hvv) fun cc hcc => Ex.nil fun g S => ?_)
          · have := congrArg List.length w1
            rw [List.length_append, List.length_append] at this
            omega
          · have := Y.z
            exact ⟨rs4.length, ⟨rs4, rvs4, vl4, tok3 ++ add, cc, false, _⟩, by omega, ⟨⟨Y.m.set, hcc, Y.rd⟩, rfl, w1, w2, rfl⟩, S⟩
        · have hrs : rs3 = [] := hrs
          subst hrs
          rw [readP_nil] at w1 w2
          exact Ex.nil fun g S => ⟨0, ⟨[], rvs', vl', tok3, vt3, true, m3⟩, by omega, ⟨⟨H2.m, t3, R'⟩, (fun e => nomatch e), fun _ => ⟨by rw [← w1]; exact (List.append_nil _).symm, rfl, w2.symm, rfl⟩⟩, S⟩
      · have ec : c ≠ 34 := by simpa using ec
        rw [hrs, tokP, if_neg hcw', if_neg ec] at d2
        have wl0 := tokP_len white rs
        refine Ex.ifM (X := fun m' led' => ∃ add rs2 rvs2 vl2 v2, XM rl x dx st pb q it t0 vw N vt1 (fun c => decide (c ∈ white)) c rs' m' led' add rs2 rvs2 vl2 v2) (b := decide ([c] = [92])) (Tv.cmp (Ev.mono (V := IsV v) (Ev.locS up_self) fun _ e => e ▸ hv) Ev.text t_eq) (fun ec => ?_) (fun ec => ?_) ?_
        · have ec : c = 92 := by simpa using ec
          subst ec
          refine Ex.setW (W.callI0 1 2 (Ev.locS H.m.ch.self) rfl rfl (m_read_char w) rfl (rd_call B hX ((r.deeper _).less (by decide)) hh R' fun v2 rvs2 vl2 hv2 R2 => Ex.nil fun g S => ⟨_, _, ⟨_, _, _, _, _, ⟨H.m.ch.ch, up_self, hv2, by rw [List.length_take]; omega, R2, by rw [List.length_drop]; omega, readP_esc (stop := fun c => decide (c ∈ white)) hcw rs', rfl⟩⟩, S⟩))
        · have ec : c ≠ 92 := by simpa using ec
          exact Ex.nil fun g S => ⟨_, _, ⟨[c], rs', rvs', vl', v, ⟨H.m.ch, up_self, hv, Nat.le_refl 1, R', Nat.le_refl _, readP_plain (stop := fun c => decide (c ∈ white)) hcw ec rs', rfl⟩⟩, S⟩
        rintro m5 led5 ⟨add, rs5, rvs5, vl5, v5, Y⟩
        rw [Y.r] at d2
        have Yn := Y.n
        refine Ex.castW Y.l (Ex.augW (U := IsT ([] ++ add)) Y.m.tok (Ev.mono (V := IsV v5) (Ev.locS Y.ch) fun _ e => e ▸ Y.v) (fun vv hvv => t_iadd (by simp; omega) _ _ H.t hvv) fun cc hcc => ?_)
        refine Ex.forV LZ.m (fun _ => _) (LZ.led rl x dx st pb q it t0 vw) (RIn x it N (fun c => decide (c ∈ white)) (tokP white rs)) rs5.length ⟨rs5, rvs5, vl5, [] ++ add, cc, false, _⟩ ⟨⟨Y.m.set, hcc, Y.rd⟩, rfl, d2 ▸ rfl, d2 ▸ rfl, rfl⟩ rfl rfl rfl (Ev.locS Y.m.set.fit) ⟨3, _, _, _, rfl⟩ fun k2 z2 H2 => ?_
        obtain ⟨rs3, rvs3, vl3, tok3, vt3, e3, m3⟩ := z2
        obtain rfl : e3 = false := H2.e
        have w1 : tok3 ++ (readP (fun c => decide (c ∈ white)) rs3).1 = (tokP white rs).1 := H2.w1
        have w2 : (readP (fun c => decide (c ∈ white)) rs3).2 = (tokP white rs).2 := H2.w2
        have w3 : k2 = rs3.length := H2.k
        have t3 : IsT tok3 vt3 := H2.t
        have wl := tokP_len white rs
        refine rd_next B hX ((r.deeper _).less (by decide)) hh H2.rd (fun c rs' v rvs' vl' hrs hv R' => ?_) (fun rvs' vl' hrs R' => ?_)
        · have hrs : rs3 = c :: rs' := hrs
          subst hrs
          rw [List.length_cons] at w3
          refine Ex.ifM (X := fun m' led' => ∃ add rs2 rvs2 vl2 v2, XM rl x dx st pb q it t0 vw N vt3 (fun c => decide (c ∈ white)) c rs' m' led' add rs2 rvs2 vl2 v2) (b := decide (c ∈ white)) (Tv.cmp (Ev.mono (V := IsV v) (Ev.locS up_self) fun _ e => e ▸ hv) (Ev.mono (V := IsV vw) (Ev.attr 1 2 (Ev.locS H2.m.ch.self) rfl rfl rfl (by obtain ⟨t, rfl⟩ := hw; rfl) (a_whitespace w)) fun _ e => e ▸ hw) c_inT) (fun e => ?_) (fun e => ?_) ?_
          · rw [readP_stop (stop := (fun c => decide (c ∈ white))) e] at w1 w2
            rw [List.append_nil] at w1
            exact Ex.retW (W.ev (Ev.locS H2.m.ch.tok) fun u hu h' S => S.tokR (hu ▸ w1 ▸ t3) (w2 ▸ R'))
          · have e' : (fun c => decide (c ∈ white)) c = false := e
            refine Ex.ifEnd (b := decide ([c] = [92])) (Tv.cmp (Ev.mono (V := IsV v) (Ev.locS up_self) fun _ e => e ▸ hv) Ev.text t_eq) (fun ec => ?_) (fun ec => ?_)
            · have ec : c = 92 := by simpa using ec
              subst ec
              refine Ex.setW (W.callI0 1 2 (Ev.locS H2.m.ch.self) rfl rfl (m_read_char w) rfl (rd_call B hX ((r.deeper _).less (by decide)) hh R' fun v2 rvs2 vl2 hv2 R2 => Ex.nil fun g S => ⟨_, _, ⟨_, _, _, _, _, ⟨H2.m.ch.ch, up_self, hv2, by rw [List.length_take]; omega, R2, by rw [List.length_drop]; omega, readP_esc e' rs', rfl⟩⟩, S⟩))
            · have ec : c ≠ 92 := by simpa using ec
              exact Ex.nil fun g S => ⟨_, _, ⟨[c], rs', rvs', vl', v, ⟨H2.m.ch, up_self, hv, Nat.le_refl 1, R', Nat.le_refl _, readP_plain e' ec rs', rfl⟩⟩, S⟩
          rintro m4 led4 ⟨add, rs4, rvs4, vl4, v4, Y⟩
          rw [Y.r] at w1 w2
          rw [← List.append_assoc] at w1
          refine Ex.castW Y.l (Ex.augW (U := IsT (tok3 ++ add)) Y.m.tok (Ev.mono (V := IsV v4) (Ev.locS Y.ch) fun _ e => e ▸ Y.v) (fun vv hvv => t_iadd ?_ _ _ t3 hvv) fun cc hcc => Ex.nil fun g S => ?_)
          · have := congrArg List.length w1
            rw [List.length_append, List.length_append] at this
            omega
          · have := Y.z
            exact ⟨rs4.length, ⟨rs4, rvs4, vl4, tok3 ++ add, cc, false, _⟩, by omega, ⟨⟨Y.m.set, hcc, Y.rd⟩, rfl, w1, w2, rfl⟩, S⟩
        · have hrs : rs3 = [] := hrs
          subst hrs
          rw [readP_nil] at w1 w2
          exact Ex.nil fun g S => ⟨0, ⟨[], rvs', vl', tok3, vt3, true, m3⟩, by omega, ⟨⟨H2.m, t3, R'⟩, (fun e => nomatch e), fun _ => ⟨by rw [← w1]; exact (List.append_nil _).symm, rfl, w2.symm, rfl⟩⟩, S⟩
    · have hrs : rs1 = [] := hrs
      subst hrs
      refine Ex.retW (W.ev (Ev.locS H.m.tok) fun u hu h' S => S.tokR ?_ ?_)
      · rw [← d2]; exact hu ▸ H.t
      · rw [← d2]; exact R'
end
end Mine

open PySem PySem.W PyProof.Rows
set_option maxRecDepth 100000
namespace Mine
open PySem PySem.W PySem.Calls PyProof.Rows
def PushR (rl x dx st pb : Addr) (rvs : List Value) (vl vw : Value) (pvs : List Value) (p : Value) (v : Value) (mu' news : Ledger) : Prop := news = [] ∧ v = .none ∧ mu' = lxMu rl x dx st pb rvs vl vw (pvs ++ [p])
def ini (x dx : Addr) : Ledger := [(x, fun o => o = instObj 52 dx), (dx, AttrD (fun _ => none) 0)]
def InitR (x dx st : Addr) (v : Value) (mu' news : Ledger) : Prop := v = .none ∧ ∃ pb vl vw, IsN 1 vl ∧ IsT [10, 9, 13, 32] vw ∧ news = [(pb, PL [])] ∧ mu' = [(x, fun o => o = instObj 52 dx), (dx, AttrD (lexF vl (.ref st) vw (.ref pb)) 4)]
theorem PL.of {vs : List Value} (h : AllV [] vs) {o : Obj} (k : PL vs o) : PL [] o := by
  cases vs with
  | nil => exact k
  | cons _ _ => exact h.elim
theorem AttrD.mono {f f' : Str → Option Value} {k k' : Nat} {o : Obj} (h : AttrD f k o) (hf : ∀ y, f y = f' y) (hk : k ≤ k') : AttrD f' k' o := by
  obtain ⟨es, n, e, h1, h2⟩ := h
  exact ⟨es, n, e, fun y => (h1 y).trans (congrArg some (hf y)), Nat.le_trans h2 hk⟩
theorem ifk {c : Prop} [Decidable c] {k n : Nat} (h : k ≤ n) : (if c then k + 1 else k) ≤ n + 1 := by
  split
  · exact Nat.succ_le_succ h
  · exact Nat.le_succ_of_le h
section
variable {prog : Program} {w : World} {A : Around}
theorem cn_push {rl x dx st pb : Addr} {X : Heap → Prop} {rvs : List Value} {vl vw p : Value} {pvs : List Value} (hX : ∀ h h', X h → Ext h h' → X h') (r : Room A 1) (hz : pvs.length ≤ 1000) :
    CnC prog w (KK w) A (.ref 49) [.ref x, p] (Mpre (KK w) (lxMu rl x dx st pb rvs vl vw pvs) X) (MutR (lxMu rl x dx st pb rvs vl vw pvs) (PushR rl x dx st pb rvs vl vw pvs p)) := by
  refine CnC.of_bodyM (binds := [(PySem.Str.ofString "self", .ref x), (PySem.Str.ofString "token", p)]) hX r (kk_look (by k_is)) (kk_code (by k_is)) rfl rfl (by decide) rfl fun h₀ L WD hX => ?_
  refine Ex.appendW 3 3 (Ev.attr 1 2 (Ev.locS rfl) rfl rfl rfl rfl (a_pushback w)) rfl (by show pvs.length ≤ 1000000; omega) (W.ev (Ev.locS rfl) fun u hu => ⟨rfl, Ex.nil fun g S => ?_⟩)
  cases hu
  exact ⟨.none, lxMu rl x dx st pb rvs vl vw (pvs ++ [p]), [], _, _, .inr ⟨rfl, rfl⟩, ⟨rfl, rfl, rfl⟩, rfl, S⟩
theorem cn_init {x dx st : Addr} {X : Heap → Prop} (hX : ∀ h h', X h → Ext h h' → X h') (r : Room A 1) :
    CnC prog w (KK w) A (.ref 28) [.ref x, .ref st] (Mpre (KK w) (ini x dx) X) (MutR (ini x dx) (InitR x dx st)) := by
  refine CnC.of_bodyM (binds := [(PySem.Str.ofString "self", .ref x), (PySem.Str.ofString "fp", .ref st)]) hX r (kk_look (by k_is)) (kk_code (by k_is)) rfl rfl (by decide) rfl fun h₀ L WD hX => ?_
  refine Ex.attrW (W.ev (Ev.nat (n := 1)) fun vl hvl => ⟨x, dx, _, _, 0, 1, Ev.locS rfl, rfl, rfl, a_lineno w, ⟨PySem.Str.ofString "", rfl⟩, by decide, ?_⟩)
  refine Ex.attrW (W.ev (Ev.locS rfl) fun u hu => ⟨x, dx, _, _, 0, 1, Ev.locS rfl, rfl, rfl, a_instream w, ⟨PySem.Str.ofString "", by rfl⟩, ?_, ?_⟩)
  · exact Nat.lt_of_le_of_lt (ifk (Nat.le_refl 0)) (by decide)
  refine Ex.attrW (W.ev Ev.text fun vw hvw => ⟨x, dx, _, _, 0, 1, Ev.locS rfl, rfl, rfl, a_whitespace w, ⟨PySem.Str.ofString "", by rfl⟩, ?_, ?_⟩)
  · exact Nat.lt_of_le_of_lt (ifk (ifk (Nat.le_refl 0))) (by decide)
  refine Ex.attrW (W.list Es.nil (Nat.zero_le _) fun pb vs hvs => ⟨x, dx, _, _, 1, 2, Ev.locS rfl, rfl, rfl, a_pushback w, ⟨PySem.Str.ofString "", by rfl⟩, ?_, ?_⟩)
  · exact Nat.lt_of_le_of_lt (ifk (ifk (ifk (Nat.le_refl 0)))) (by decide)
  cases hu
  refine Ex.nil fun g S => ⟨.none, [(x, fun o => o = instObj 52 dx), (dx, AttrD (lexF vl (.ref st) vw (.ref pb)) 4)], [(pb, PL [])], _, _, .inr ⟨rfl, rfl⟩, ⟨rfl, pb, vl, vw, hvl, hvw, rfl, rfl⟩, rfl, S.sub (fun p hp => ?_) S.nd⟩
  rcases List.mem_cons.mp hp with rfl | hp
  · exact ⟨_, .head _, rfl, fun o h => PL.of hvs h⟩
  rcases List.mem_cons.mp hp with rfl | hp
  · exact ⟨_, .tail _ (.head _), rfl, fun _ h => h⟩
  · rw [List.mem_singleton.mp hp]
    exact ⟨_, .tail _ (.tail _ (.head _)), rfl, fun o h => AttrD.mono h (fun _ => rfl) (ifk (ifk (ifk (ifk (Nat.le_refl 0)))))⟩
end
end Mine

open PySem PySem.W PyProof.Rows
set_option maxRecDepth 100000
namespace Mine
open PySem PySem.W PySem.Calls PyProof.Rows
theorem bm_K (w : World) : ∃ bm ob, nsIn (KK w) mainGlobals (PySem.Str.ofString "__builtins__") = some (some (.ref bm)) ∧ (KK w).lookup bm = some ob ∧ bm ≠ builtinsNs ∧ bm ≠ mainGlobals ∧ bm ≠ 234 ∧ ob.cls = .type "module" ∧ ob.dict = some builtinsNs ∧ ob.data = .plain :=
  ⟨_, _, kk_ns (by k_is), kk_look (by k_is), by decide, by decide, by decide, rfl, rfl, rfl⟩
theorem code_K (w : World) : codeHdIn (KK w) 236 234 = true := by
  have : (KK w).lookup 236 = _ := kk_look (by k_is)
  unfold codeHdIn
  rw [this]
  rfl
theorem bm_at {w : World} {h : Heap} (W : Wd (KK w) h) : ∃ mg, h.Ns mainGlobals mg ∧ h.BuiltinsAt mg 234 := by
  obtain ⟨bm, ob, h1, h2, h3, h4, h5, h6, h7, h8⟩ := bm_K w
  obtain ⟨X, p, l, mg, mb, T⟩ := W
  exact ⟨mg, T.g, bm, ob, mg_of X T.g h1, h3, h4, h5, X _ _ h2, h6, h7, h8⟩
/-- a code object for a nested def -/
def CodeP (qual : Str) (o : Obj) : Prop := ∃ vs t, o.data = .fields vs ∧ vs[1]? = some (.str qual t)
section
variable {prog : Program} {w : World} {A : Around} {env : Env} {h₀ : Heap} {L : Addr} {cs : List (Str × Addr)} {m cm : Str → Option Value} {led : Ledger} {C : Value → Ledger → Prop}
theorem W.lam {params : Arguments} {body : Expr} {scope : Scope} {pos : Pos} {cl : List (Str × Addr)} {ps : Array Value} (hcl : closureFor scope env = pure cl) (ht : TriplesOk ps.toList) (hnf : codeAmong pos ps.toList = none)
    (k : ∀ f c pm ctv, C (.ref f) ((f, fun o => o = kla_obj "<lambda>" (env.qual ++ "<lambda>") params body scope cl pm c ctv) :: (c, CodeP (env.qual ++ "<lambda>")) :: (234, fun o => o = tabObj (ps ++ #[rawInt pos.line, rawInt pos.col, .ref c])) :: led))
    (hdef : defaultsOf params env = ([], []) := by rfl) (hg : env.globals = mainGlobals := by rfl) (hc : env.code = .ref 236 := by rfl) :
    TrS (model prog w) A (KK w) h₀ L cs m cm ((234, fun o => o = tabObj ps) :: led) (eval (.Lambda params body scope pos) env) C := fun h S => Run.mk fun s Q E hs q => by
  subst hs
  obtain ⟨mg, hmg, hb⟩ := bm_at S.wdh
  obtain ⟨o, ho, rfl⟩ := S.has (i := 0) rfl
  refine kla_eval hdef (kla_makeFunction hcl hg hmg hc (codeHd_of_K S.wdh.1 (code_K w)) ho ht hnf (by decide) hb fun c' ctv h' tk hx hge hlt hrec htb => ?_)
  obtain ⟨c2, oc, vs, t, e2, hoc, hd, hv⟩ := hrec
  cases e2
  refine q _ _ tk ⟨_, k h'.objs.size c' ((mg "__name__").getD .none) ctv, St.mut (mu := [(234, fun o => o = tabObj ps)]) (mu' := [(234, fun o => o = tabObj (ps ++ #[rawInt pos.line, rawInt pos.col, .ref c']))]) (news := [(h'.objs.size, fun o => o = kla_obj "<lambda>" (env.qual ++ "<lambda>") params body scope cl ((mg "__name__").getD .none) c' ctv), (c', CodeP (env.qual ++ "<lambda>"))]) S ⟨fun b o hb e => Heap.get?_push_of_some _ (hx b o (fun z => hb (z ▸ List.mem_singleton.mpr rfl)) e), rfl, fun p hp => ?_, fun p hp => ?_, ?_⟩⟩
  · rw [List.mem_singleton.mp hp]
    exact ⟨_, Heap.get?_push_of_some _ htb, rfl⟩
  · have sz : s.heap.objs.size ≤ h'.objs.size := Nat.le_of_lt (Nat.lt_of_le_of_lt hge hlt)
    rcases List.mem_cons.mp hp with rfl | hp
    · exact ⟨Heap.get?_none_of_le sz, _, Heap.get?_push_size _ rfl, rfl⟩
    · rw [List.mem_singleton.mp hp]
      exact ⟨Heap.get?_none_of_le hge, _, Heap.get?_push_of_some _ hoc, _, _, hd, hv⟩
  · show [h'.objs.size, c'].Nodup
    simpa using fun e => absurd hlt (by rw [e]; exact Nat.lt_irrefl _)
end
end Mine

open PySem PySem.W PyProof.Rows
set_option maxRecDepth 100000
namespace Mine
open PySem PySem.W PySem.Calls PyProof.Rows Builtin Builtin.ObjectAttr
theorem fn_mro : mroOf (.type "function") = pure [.type "function", .type "object"] := by kernel_rfl
section
variable {prog : Program} {w : World} {A : Around} {E : Value → Shared → Prop} {h : Heap} {g : Array GenState} {d : Drawn} {t : Nat} {os : OsState} {a : Addr}
theorem fn_store {fd : FuncData} {tk : Tok} {v : Value} {Q : PySem.Fin → Shared → Prop} (hx : h.get? a = some ⟨.type "function", none, .func fd, #[]⟩)
    (hq : ∀ h' k, h'.get? a = some ⟨.type "function", some h.objs.size, .func fd, #[]⟩ → (∃ m, h'.Ns h.objs.size m ∧ m (PySem.Str.ofString "read") = some v) → (∀ b o, b ≠ a → h.get? b = some o → h'.get? b = some o) → Q (.done (.ret .none)) ⟨h', g, d, k, os⟩) :
    wpAny (model prog w) A (Builtin.«object.__setattr__» ⟨[.ref a, .str (PySem.Str.ofString "read") tk, v], []⟩) Q E ⟨h, g, d, t, os⟩ := by
  have hT : (⟨h, g, d, t, os⟩ : Shared).TypeIs (.ref a) "function" := ⟨_, hx, rfl⟩
  have f4 := fn_noread
  rw [osa_eq, refuse_eq]
  refine wpAny_bind (wpAny_bind (wpAny_typeOf hT ?_))
  rw [fn_mro]
  refine wpAny_bind (wpAny_pure ?_)
  have hr : refuseLoop (.ref a) (PySem.Str.ofString "__setattr__") [.type "function", .type "object"] = pure () := by kernel_rfl
  rw [hr]
  refine wpAny_pure (wpAny_bind (wpAny_typeOf hT ?_))
  rw [f4]
  refine wpAny_bind (wpAny_pure ?_)
  show wpAny _ _ (pure none >>= _) _ _ _
  refine wpAny_bind (wpAny_pure ?_)
  show wpAny _ _ (storeInOwnDict _ _ _ _ _ _) _ _ _
  unfold storeInOwnDict
  show wpAny _ _ (pure () >>= _) _ _ _
  refine wpAny_bind (wpAny_pure ?_)
  rw [if_neg (show ¬ ((Value.type "function" == Value.type "module") = true) by decide)]
  show wpAny _ _ (instanceDict a true >>= _) _ _ _
  refine wpAny_bind ?_
  unfold instanceDict
  refine wpAny_bind (wpAny_loadPart hx ?_)
  show wpAny _ _ (if (!true || !typeHasDict (.type "function")) = true then _ else _) _ _ _
  rw [if_neg (show ¬ ((!true || !typeHasDict (.type "function")) = true) by decide +kernel)]
  refine wpAny_bind (wpAny_alloc ?_)
  have hlt := Heap.lt_size hx
  have h1 := Heap.get?_push_of_some (h := h) { cls := .type "dict", dict := none, data := .dict #[], slots := #[] } hx
  refine wpAny_bind (wpAny_update h1 ?_)
  have hA := Heap.get?_update_self (fun o => { cls := o.cls, dict := some h.objs.size, data := o.data, slots := o.slots }) h1 rfl
  have hD : ((h.push { cls := .type "dict", dict := none, data := .dict #[], slots := #[] }).update a (fun o => { cls := o.cls, dict := some h.objs.size, data := o.data, slots := o.slots })).get? h.objs.size = some { cls := .type "dict", dict := none, data := .dict #[], slots := #[] } :=
    (Heap.get?_update_other _ _ (Nat.ne_of_lt hlt)).trans (Heap.get?_push_size _ rfl)
  have hO : ∀ b o, b ≠ a → h.get? b = some o → ((h.push { cls := .type "dict", dict := none, data := .dict #[], slots := #[] }).update a (fun o => { cls := o.cls, dict := some h.objs.size, data := o.data, slots := o.slots })).get? b = some o := fun b o hb e =>
    (Heap.get?_update_other _ _ (Ne.symm hb)).trans (Heap.get?_push_of_some _ e)
  generalize ((h.push { cls := .type "dict", dict := none, data := .dict #[], slots := #[] }).update a (fun o => { cls := o.cls, dict := some h.objs.size, data := o.data, slots := o.slots })) = h2 at hA hD hO
  unfold dictMade
  show wpAny _ _ (if finalisedInACycleAlone "function" = true then _ else _) _ _ _
  rw [if_neg (show ¬ (finalisedInACycleAlone "function" = true) by decide +kernel)]
  refine wpAny_pure ?_
  show wpAny _ _ (storeInDict _ _ _ _) _ _ _
  unfold storeInDict
  refine wpAny_bind (wpAny_pure (wpAny_bind ?_))
  unfold nsSet
  refine wpAny_bind (wpAny_bind (wpAny_askSetting (wpAny_pure (wpAny_bind (wpAny_mkText (wpAny_bind (wpAny_loadPart hD ?_)))))))
  show wpAny _ _ (if aRefKeyMayBeTheName (PySem.Str.ofString "read") #[] = true then _ else _) _ _ _
  rw [if_neg (show ¬ (aRefKeyMayBeTheName (PySem.Str.ofString "read") #[] = true) by rw [aRefKeyMayBeTheName_at]; simp)]
  refine wpAny_updatePart hD ?_
  have hD' := Heap.get?_update_self (Obj.putName (PySem.Str.ofString "read") (PyData.keyHash w.params (PySem.Str.ofString "read")) (.str (PySem.Str.ofString "read") t) v) hD rfl
  have eD : Obj.putName (PySem.Str.ofString "read") (PyData.keyHash w.params (PySem.Str.ofString "read")) (.str (PySem.Str.ofString "read") t) v { cls := .type "dict", dict := none, data := .dict #[], slots := #[] } = W.dictOf [⟨PyData.keyHash w.params (PySem.Str.ofString "read"), .str (PySem.Str.ofString "read") t, v⟩] 1 := putName_dict _ _ _ _ [] 0
  rw [eD] at hD'
  refine wpAny_bind (wpAny_lookBehind hD' (pastItsLine_dict (by rw [sizeLine_eq]; exact Nat.le_of_ble_eq_true rfl)) ?_)
  refine wpAny_pure (hq _ _ ((Heap.get?_update_other _ _ (Ne.symm (Nat.ne_of_lt hlt))).trans hA) ⟨_, ⟨_, _, _, hD', rfl, fun e he => ?_, fun _ => rfl⟩, ?_⟩ fun b o hb e => ?_)
  · simp at he
    exact ⟨_, _, by rw [he]⟩
  · rfl
  · exact (Heap.get?_update_other _ _ (Ne.symm (Nat.ne_of_lt (Heap.lt_size e)))).trans (hO b o hb e)
theorem args_osa (a b c : Value) : argsOk "object.__setattr__" ⟨[a, b, c], []⟩ := by unfold argsOk; kernel_rfl
theorem fn_set {fd : FuncData} {v : Value} {Q : Unit → Shared → Prop} (hx : h.get? a = some ⟨.type "function", none, .func fd, #[]⟩)
    (hq : ∀ h' k, h'.get? a = some ⟨.type "function", some h.objs.size, .func fd, #[]⟩ → (∃ m, h'.Ns h.objs.size m ∧ m (PySem.Str.ofString "read") = some v) → (∀ b o, b ≠ a → h.get? b = some o → h'.get? b = some o) → Q () ⟨h', g, d, k, os⟩) :
    wpAny (model prog w) A (setAttr (.ref a) (PySem.Str.ofString "read") v) Q E ⟨h, g, d, t, os⟩ := by
  have hT : (⟨h, g, d, t + 1, os⟩ : Shared).TypeIs (.ref a) "function" := ⟨_, hx, rfl⟩
  unfold setAttr
  refine wpAny_bind (wpAny_mkText (wpAny_bind (wpAny_callSpecial?_slot (name := Str.ofString "__setattr__") hT slot_fn_sa (wpAny_call (codeAny_call_builtin slot_fn_sa.plain entry_osa (slot_fn_sa.check _ _ _ _ _ _ _ _ hT (args_osa _ _ _) (fn_store hx fun h' k k1 k2 k3 => ?_)))))))
  exact wpAny_pure (hq h' k k1 k2 k3)
end
section
variable {K : Frag} {h₀ h h' : Heap} {L : Addr} {cs : List (Str × Addr)} {m cm : Str → Option Value} {led led' : Ledger}
theorem St.addN (S : St K h₀ L cs m cm led h) (S' : St K h₀ L cs m cm led' h') (ha : ads led' = ads led) {l : Addr} {o : Obj} {P : Obj → Prop} (hl : h.get? l = none) (ho : h'.get? l = some o) (hP : P o) : St K h₀ L cs m cm ((l, P) :: led') h' := by
  have no : ∀ a, (∃ o, h.get? a = some o) → l ≠ a := fun a ⟨o, e⟩ q => by rw [q, e] at hl; cases hl
  refine ⟨S'.fr, S'.cl, S'.wd, fun p hp => ?_, ?_, S.nn⟩
  · rcases List.mem_cons.mp hp with rfl | hp
    · obtain ⟨oL, _, _, hL, _⟩ := S.fr.ns
      refine ⟨⟨o, ho, hP⟩, no L ⟨oL, hL⟩, ?_, fun x hx => ?_⟩
      · cases q : h₀.get? l with
        | none => rfl
        | some o' => have := S.fr.keep _ _ q; rw [hl] at this; cases this
      · obtain ⟨oc, hc, _⟩ := S.cl.cell x.1 x.2 (lookup_of_mem_nodup S.nn hx)
        exact no x.2 ⟨oc, hc⟩
    · exact S'.ld p hp
  · show (l :: ads led').Nodup
    refine List.nodup_cons.mpr ⟨fun hm => ?_, S'.nd⟩
    rw [ha] at hm
    obtain ⟨p, hp, e⟩ := List.mem_map.mp hm
    exact no p.1 (let ⟨⟨o, ho, _⟩, _⟩ := S.ld p hp; ⟨o, ho⟩) e.symm
end
section
variable {prog : Program} {w : World} {A : Around} {env : Env} {K : Frag} {h₀ : Heap} {L : Addr} {cs : List (Str × Addr)} {m cm : Str → Option Value} {led : Ledger} {C : Value → Ledger → Prop}
theorem Ex.fnAttrW {e o : Expr} {pos' pos : Pos} {rest : List Stmt} {F : Flow → Heap → Prop} (hx : TrS (model prog w) A K h₀ L cs m cm led (eval e env) fun v led1 => ∃ (st : Addr) (fd : FuncData) (i : Nat), Ev (model prog w) A (St K h₀ L cs m cm led1) env o (IsR st) ∧ (led1 : Ledger)[i]? = some (st, fun o => o = ⟨.type "function", none, .func fd, #[]⟩) ∧
      ∀ dx, Ex (model prog w) A (St K h₀ L cs m cm ((dx, NsO (PySem.Str.ofString "read") v) :: (led1.set i (st, fun o => o = ⟨.type "function", some dx, .func fd, #[]⟩)))) env rest F)
    (hs : swapsWith e (some (.Attribute o "read" pos')) pos.line env = pure false := by rfl) : Ex (model prog w) A (St K h₀ L cs m cm led) env (.Assign [.Attribute o "read" pos'] e pos :: rest) F := fun h hI => Run.mk fun s Q E hs' q => by
  refine wpAny_execs_cons (plainObj_wpAny_Assign_Attribute (hs := hs) ((hx h hI).bindK hs' fun v h1 k1 r1 => ?_))
  obtain ⟨led1, ⟨st, fd, i, ho, hi, kx⟩, S⟩ := r1
  refine (ho h1 S).bindK rfl fun ov h2 k2 r2 => ?_
  obtain ⟨ro, S2⟩ := r2
  cases ro
  obtain ⟨o', ho', rfl⟩ := S2.has hi
  refine fn_set ho' fun h3 k3 e1 e2 e3 => ?_
  obtain ⟨m3, hn, hm⟩ := e2
  obtain ⟨on, hon, hnm⟩ := Ns.obj hn
  exact (kx h2.objs.size h3 (S2.addN (P := NsO (PySem.Str.ofString "read") v) (S2.putE (P' := fun o => o = ⟨.type "function", some h2.objs.size, .func fd, #[]⟩) hi e3 e1 rfl) (ads_set hi) (push_none _) hon ⟨m3, hnm, hm⟩)).bindK rfl q
end
end Mine

open PySem PySem.W PyProof.Rows
set_option maxRecDepth 100000
namespace Mine
open PySem PySem.W PySem.Calls PyProof.Rows
theorem i_keep (w : World) : keepIn (KK w) (.ref 52) = true := by kernel_rfl
theorem i_init (w : World) : findIn (KK w) (.ref 52) "__init__" = some (some (.ref 28)) := by kernel_rfl
theorem i_initfn (w : World) : isFn (KK w) (.ref 28) = true := by kernel_rfl
theorem tc_room {A : Around} {vs : List Value} {n : Nat} (r : Room A (n + 1)) : Room (A.under (.builtin "type.__call__" ⟨.ref 52 :: vs, []⟩)) n := by
  have hd : (A.under (.builtin "type.__call__" ⟨.ref 52 :: vs, []⟩)).depth = A.depth + 1 := rfl
  have hu : (A.under (.builtin "type.__call__" ⟨.ref 52 :: vs, []⟩)).units = A.units + 1 := rfl
  have h1 := r.d
  have h2 := r.u
  exact ⟨by omega, by omega⟩
section
variable {prog : Program} {w : World} {A : Around} {env : Env} {h₀ : Heap} {L : Addr} {cs : List (Str × Addr)} {m cm : Str → Option Value} {led : Ledger} {C : Value → Ledger → Prop}
theorem W.cls {fe e : Expr} {pos : Pos} {st : Addr} (hf : Ev (model prog w) A (St (KK w) h₀ L cs m cm led) env fe (IsR 52)) (hx : Ev (model prog w) A (St (KK w) h₀ L cs m cm led) env e (IsR st)) (r : Room A 2)
    (k : ∀ x dx pb vl vw, IsN 1 vl → IsT [10, 9, 13, 32] vw → C (.ref x) ((pb, PL []) :: (x, fun o => o = instObj 52 dx) :: (dx, AttrD (lexF vl (.ref st) vw (.ref pb)) 4) :: led))
    (he : starEach [e] env = (false, eval e env) :: starEach [] env := by rfl) (hplain : (backTo pos (starEach [] env)).any (·.1) = false := by rfl)
    (hcall : eval (.Call fe [e] [] pos) env = (do callWith pos (← eval fe env) [] (backTo pos (starEach [e] env)) (backToKw pos (keywordEach [] env))) := by rfl) :
    TrS (model prog w) A (KK w) h₀ L cs m cm led (eval (.Call fe [e] [] pos) env) C := fun h hh => Run.mk fun s Q E hs q => by
  refine Call_ (he := hcall) ((hf h hh).bindK hs fun v h1 k1 r1 => ?_)
  obtain ⟨r1, S1⟩ := r1
  cases r1
  have hxx : Tr (model prog w) A (St (KK w) h₀ L cs m cm led) (spliced (backTo pos (starEach [e] env))) _ := Es.cons (he := he) hx Es.nil pos
  refine callWith_K (he := he) (hplain := hplain) S1.wdh.1 (i_keep w) ((hxx h1 S1).bindK rfl fun vs h2 k2 r2 => ?_)
  obtain ⟨hv, S2⟩ := r2
  match vs, hv with
  | [u], hu =>
    have hu := hu.1
    cases hu
    refine ⟨S2.wdh.1, wpAny_call ?_⟩
    obtain ⟨_, g, d, t, os⟩ := s
    refine make_core (makes_of S2.wdh.1 (i_makes w)) (looks_findIn S2.wdh.1 (i_init w)) (fun self => bind_fn S2.wdh.1 self (beq_iff_eq.mp (i_initfn w))) (.inl rfl) ?_
    have S3 := S2.add (l := h2.objs.size) (P := AttrD (fun _ => none) 0) (push_ext _ emptyDict) (push_none _) (Heap.get?_push_size _ rfl) ⟨[], 0, rfl, fun x => rfl, Nat.le_refl _⟩
    have S4 := S3.add (l := h2.objs.size + 1) (P := fun o => o = instObj 52 h2.objs.size) (push_ext _ (instObj 52 h2.objs.size)) (by have := push_none (h2.push emptyDict); rwa [Heap.size_push] at this) (by have := Heap.get?_push_size (h2.push emptyDict) (o := instObj 52 h2.objs.size) rfl; rwa [Heap.size_push] at this) rfl
    refine cn_init (X := fun _ => True) (x := h2.objs.size + 1) (dx := h2.objs.size) (st := st) (fun _ _ _ _ => trivial) (tc_room r) _ S4.wdh (St.mpre (mu := ini (h2.objs.size + 1) h2.objs.size) (led := led) S4 trivial) _ _ rfl fun v h' k' rr => ?_
    obtain ⟨mu', news, ⟨rfl, pb, vl, vw, hl, hw, rfl, rfl⟩, M⟩ := rr
    exact ⟨rfl, q _ h' k' ⟨_, k _ _ _ _ _ hl hw, St.mut (mu := ini (h2.objs.size + 1) h2.objs.size) S4 M⟩⟩
end
end Mine

open PySem PySem.W PyProof.Rows
set_option maxRecDepth 100000
namespace Mine
open PySem PySem.W PySem.Calls PyProof.Rows
section
variable {prog : Program} {w : World} {A : Around}
theorem Src1.str {h₁ : Heap} {x : Str} {t : Tok} (hh : A.handled = none) : Src1 prog w A (.str x t) h₁ x.cps.size (SignAt x) [] := fun s Q E hs q => by
  subst hs
  cases ha : x.cps.all (· < 128)
  · exact wpAny_pyIter_wide ha (q _ _ _ s.toks _ (push_ext _ _) (push_none _) (Walks.strWide hh _ x t) (fun b hb => .inl (List.mem_singleton.mp hb)) (fun i h t => let ⟨o, ho, _⟩ := t; ⟨o, ho⟩) ⟨_, Heap.get?_push_size _ rfl, rfl, rfl⟩)
  · exact wpAny_pyIter_ascii ha (q _ _ _ s.toks _ (push_ext _ _) (push_none _) (Walks.strAscii hh _ x t) (fun b hb => .inl (List.mem_singleton.mp hb)) (fun i h t => let ⟨o, ho, _⟩ := t; ⟨o, ho⟩) ⟨_, Heap.get?_push_size _ rfl, rfl, rfl⟩)
/-- for, over a source that leans on its iterator alone -/
theorem Ex.forW {K : Frag} {env : Env} {h₀ : Heap} {L : Addr} {cs : List (Str × Addr)} {m cm : Str → Option Value} {led : Ledger} {σ : Type} {iter : Expr} {x : Str} {px : Pos} {body rest : List Stmt} {pos : Pos} (mf cf : σ → Str → Option Value) (lf : σ → Ledger) (R : Nat → σ → Prop) (n : Nat) (P : Nat → Value → Prop) {G : Flow → Heap → Prop}
    (hsrc : TrS (model prog w) A K h₀ L cs m cm led (eval iter env) fun xv led1 => (∀ h₁, St K h₀ L cs m cm led1 h₁ → Src1 prog w A xv h₁ n P []) ∧ ∃ z, R 0 z ∧ mf z = m ∧ cf z = cm ∧ ∀ h, St K h₀ L cs m cm led1 h → St K h₀ L cs m cm (lf z) h)
    (hb : ∀ i z u It oI, i < n → P i u → R i z → Ex (model prog w) A (St K h₀ L cs (up (mf z) x u) (cf z) ((It, fun o => o = oI) :: lf z)) env body fun fl h' => fl = .next ∧ ∃ z', R (i + 1) z' ∧ St K h₀ L cs (mf z') (cf z') ((It, fun o => o = oI) :: lf z') h')
    (hr : ∀ z, R n z → Ex (model prog w) A (St K h₀ L cs (mf z) (cf z) (lf z)) env rest G)
    (hs : ∀ x, foldedSetIterable iter env x = pure x := by intro _; rfl) (hL : env.locals = L := by rfl) (hk : env.scope.kind = .function := by rfl) (hl : env.kindOf x = some .local := by rfl) :
    Ex (model prog w) A (St K h₀ L cs m cm led) env (.For (.Name x px) iter body [] pos :: rest) G := by
  refine Ex.cons (J := fun g => ∃ z, R n z ∧ St K h₀ L cs (mf z) (cf z) (lf z) g) (fun h hh => Run.mk fun s Q E hs' q => ?_) (fun g ⟨z, hz, S⟩ => hr z hz g S)
  refine wpAny_noRaise ?_
  refine wpAny_For ((hsrc h hh).bindK hs' fun xv h1 k1 r1 => ?_) hs
  obtain ⟨led1, ⟨src, z0, hz0, em, ec, el⟩, S1⟩ := r1
  subst em ec
  refine src _ S1 _ _ _ rfl fun It T h2 k2 fp x2 nI W hfp hT t0 => ?_
  have hfp' : ∀ b ∈ fp, b = It := fun b hb => (hfp b hb).elim id fun ⟨p, hp, _⟩ => nomatch hp
  obtain ⟨oI0, hoI⟩ := hT _ _ t0
  refine codeAny_forLoop (fun k s' => ∃ i g tk z oI, s' = { s with heap := g, toks := tk } ∧ k = n + 1 - i ∧ i ≤ n ∧ R i z ∧ T i g ∧ St K h₀ L cs (mf z) (cf z) ((It, fun o => o = oI) :: lf z) g) ?_ (n + 1) ⟨0, h2, k2, z0, oI0, rfl, rfl, Nat.zero_le _, hz0, t0, (el _ S1).add x2 nI hoI rfl⟩
  rintro k s' ⟨i, g, tk, z, oI, rfl, rfl, hi, hR, t, S⟩
  have part : ∀ h1, (∀ b o, b ∉ [It] → g.get? b = some o → h1.get? b = some o) → ∀ o1, h1.get? It = some o1 → St K h₀ L cs (mf z) (cf z) ((It, fun o => o = o1) :: lf z) h1 := fun h1 k1 o1 ho1 => by
    have := S.putE (i := 0) (P' := fun o => o = o1) rfl (fun b o hb e => k1 b o (by simpa using hb) e) ho1 rfl
    exact this
  rcases Nat.lt_or_ge i n with hlt | hge
  · refine W.item i _ _ _ hlt t fun u h3 tk3 hP t3 k3 => ?_
    obtain ⟨o3, ho3⟩ := hT _ _ t3
    have S3 := part h3 k3 o3 ho3
    refine wpAny_assign_Name (wpAny_storeName_local hl (hL ▸ S3.fr.ns) (fun h4 hn hs2 => ?_) (by show (env.scope.kind == .class || (env.scope.kind == .module && env.locals != env.globals)) = false; rw [hk]; rfl))
    have S4 := S3.setL (hL ▸ hn) (hL ▸ hs2)
    have fr : ∀ {a b : Heap} {j : Nat}, T j a → (∃ o, a.get? It = some o ∧ o = o3) → (∃ o, b.get? It = some o ∧ o = o3) → T j b := fun ta ⟨oa, ha, ea⟩ ⟨ob, hb, eb⟩ => W.frame _ _ _ ta fun c hc o e => by
      rw [hfp' c hc] at e ⊢
      rw [ha] at e; cases e
      rw [hb, eb, ea]
    refine (hb i z u It o3 hlt hP hR h4 S4).bindK rfl fun fl g5 k5 r5 => ?_
    obtain ⟨rfl, z', hR', S5⟩ := r5
    exact ⟨n + 1 - (i + 1), by omega, i + 1, g5, k5, z', o3, rfl, rfl, hlt, hR', fr t3 (S3.has (i := 0) rfl) (S5.has (i := 0) rfl), S5⟩
  · have e : i = n := Nat.le_antisymm hi hge
    subst e
    refine W.done _ _ _ t fun h1 tk1 k1 => ?_
    refine wpAny_execs_nil (q .next h1 tk1 ⟨z, hR, ?_⟩)
    refine S.extB (as := [It]) (fun b o hb e => k1 b o hb e) (fun a ha => by rw [List.mem_singleton.mp ha]; simp [ads]) (fun p hp => ?_) (List.nodup_cons.mp S.nd).2
    obtain ⟨⟨o, ho, hq⟩, _⟩ := S.ld p (List.mem_cons_of_mem _ hp)
    exact ⟨List.mem_map.mpr ⟨p, List.mem_cons_of_mem _ hp, rfl⟩, o, k1 _ _ (by simpa using fun e => S.notIn p hp e.symm) ho, hq⟩
end
end Mine

open PySem PySem.W PyProof.Rows
set_option maxRecDepth 100000
namespace Mine
open PySem PySem.W PySem.Calls PyProof.Rows
theorem msg_len : ∀ n, n < 31 → (((toString "ord() expected a character, but string of length " ++ toString n ++ toString " found" : String)) : Str).length ≤ 1000 := by decide +kernel
theorem msg_line : (1000 : Nat) ≤ sizeLine := by rw [sizeLine_eq]; exact Nat.le_of_ble_eq_true rfl
section
variable {prog : Program} {w : World} {A : Around} {E : Value → Shared → Prop} {s : Shared}
theorem raise_msg {α : Type} {msg : String} {Q : α → Shared → Prop} (hh : A.handled = none) (hm : (msg : Str).length ≤ 1000) (h : ∀ h' tk e, Heap.NewExc s.heap h' e "TypeError" → E (.ref e) { s with heap := h', toks := tk }) :
    wpAny (model prog w) A (do rule "ord.length"; raiseErrorMade "TypeError" msg : Sem α) Q E s :=
  wpAny_bind (wpAny_rule (wpAny_raiseTypeError hh h (Nat.le_trans hm msg_line)))
theorem ord_raises {x : Str} {t : Tok} {Q : Value → Shared → Prop} (hh : A.handled = none) (hn : x.cps.size ≠ 1) (hz : x.cps.size ≤ 30) (h : ∀ h' tk e, Heap.NewExc s.heap h' e "TypeError" → E (.ref e) { s with heap := h', toks := tk }) :
    wpAny (model prog w) A (call (.builtin "ord") [.str x t]) Q E s := by
  refine call_function_entry F.kind_ord F.plain_ord F.entry_ord (F.args_ord1 _) ?_
  unfold Builtin.«ord»
  refine wpAny_bind (m := oneArg "ord" _) (wpAny_of_eq (a := Value.str x t) (by first | rfl | kernel_rfl!) ?_)
  refine wpAny_bind (m := asStr? (.str x t)) (wpAny_of_eq (a := some x) (by first | rfl | kernel_rfl!) ?_)
  dsimp only
  refine wpAny_bind (wpAny_pure ?_)
  have hl : x.cps.toList.length = x.cps.size := Array.length_toList
  generalize hc : x.cps.toList = l at hl
  have hlt : l.length < 31 := by omega
  clear hc hz
  rcases l with _ | ⟨a, _ | ⟨b, l⟩⟩
  · exact raise_msg hh (msg_len _ hlt) h
  · exact absurd hl.symm hn
  · exact raise_msg hh (msg_len _ hlt) h
end
end Mine

open PySem PySem.W PyProof.Rows
set_option maxRecDepth 100000
namespace Mine
open PySem PySem.W PySem.Calls PyProof.Rows
/-- an exception on its way: its frames, its context (none), and the flight mark of its first entry -/
def Tr2 (base : Heap) (e : Addr) (fl : Value) (h : Heap) : Prop :=
  ∃ oe vs T oT ts, h.get? e = some oe ∧ oe.cls = .type "TypeError" ∧ oe.data = .fields vs ∧ vs[2]? = some .none ∧ vs[1]? = some (.ref T) ∧ base.get? T = none ∧ T ≠ e ∧ h.get? T = some oT ∧ oT.data = .fields ts ∧ ts[3]? = some fl
structure Fl (base : Heap) (l : List Env) (e : Addr) (fl : Value) (h : Heap) : Prop where
  st : base.StaysIn h
  en : base.get? e = none
  ff : h.FunFrames base l
  tr : Tr2 base e fl h
section
variable {M : Model} {A : Around} {E : Value → Shared → Prop} {s : Shared}
theorem fl_entry {base : Heap} {env : Env} {outer : List Env} {L e : Addr} {oe : Obj} {vs : Array Value} {head : Value} {hadNext : Bool} {Q : Unit → Shared → Prop}
    (hfr : A.frames = some (env :: outer)) (hl : s.heap.FunFrames base (env :: outer)) (hf : env.frame = some L)
    (he : s.heap.get? e = some oe) (hcls : oe.cls = .type "TypeError") (hkb : base.StaysIn s.heap) (hen : base.get? e = none) (hd : oe.data = .fields vs) (hsz : 1 < vs.size) (h0 : vs[2]? = some .none)
    (h : ∀ h', Fl base (env :: outer) e (rawInt L) h' → s.heap.UpToSlots h' → Q () { s with heap := h' }) :
    wpAny M A (do let a ← frameOf env; let pl ← entryPlaceOf L hadNext; let b ← EntryCells.newEntry head a .none (rawInt L) .none pl; setField (.ref e) 1 b) Q E s := by
  have hene : e ∉ (env :: outer).filterMap (·.frame) := fun hm => by
    obtain ⟨_, o, ho, hnf⟩ := hl.mem hm
    rw [he] at ho; injection ho with ho; subst ho; exact hnf vs hd
  refine wpAny_bind (wpAny_frameOf_fun hfr hl hf fun h₁ hs₁ => ?_)
  refine wpAny_bind (wpAny_entryPlaceOf fun pl hpl => ?_)
  unfold EntryCells.newEntry newFields
  refine wpAny_bind (wpAny_newObj_type ?_ (hpl.sizeOk5 _ _ _ _ _))
  have he₁ : h₁.get? e = some oe := (hs₁.2.1 e hene).trans he
  have kb₁ : base.StaysIn h₁ := fun b o hbo => (hs₁.2.1 b fun hm => by rw [(hl.mem hm).1] at hbo; cases hbo).trans (hkb b o hbo)
  generalize hT0 : ({ cls := .type "traceback", dict := none, data := .fields ([head, .ref L, .none, rawInt L, .none] ++ (if pl.isEmpty then List.replicate 6 Value.none else pl)).toArray } : Obj) = oT
  have hTd : oT.data = .fields ([head, .ref L, .none, rawInt L, .none] ++ (if pl.isEmpty then List.replicate 6 Value.none else pl)).toArray := by rw [← hT0]
  have he₂ := Heap.get?_push_of_some (h := h₁) oT he₁
  refine wpAny_setField he₂ hd hsz (h _ ?_ ?_)
  all_goals
    have hTe : h₁.objs.size ≠ e := Nat.ne_of_gt (Heap.lt_size he₁)
    have hd₃ := Obj.data_mapFields hd (·.setIfInBounds 1 (Value.ref h₁.objs.size))
    have he₃ := Heap.get?_update_self (Obj.mapFields (·.setIfInBounds 1 (Value.ref h₁.objs.size))) he₂ (Obj.isFreed_of_fields hd₃)
    have hT₃ := (Heap.get?_update_other (h₁.push oT) (Obj.mapFields (·.setIfInBounds 1 (Value.ref h₁.objs.size))) (Ne.symm hTe)).trans (Heap.get?_push_size h₁ (by rw [← hT0]; rfl))
    have keep : ∀ b o, b ≠ e → h₁.get? b = some o → ((h₁.push oT).update e (Obj.mapFields (·.setIfInBounds 1 (Value.ref h₁.objs.size)))).get? b = some o := fun b o hbe hb => by
      rw [Heap.get?_update_other _ _ (Ne.symm hbe)]
      exact Heap.get?_push_of_some _ hb
    have noRecord : ∀ b o, s.heap.get? b = some o → (∀ vs, o.data ≠ .fields vs) → b ≠ e := fun b o hb hnf q => by
      rw [q, he] at hb; injection hb with hb; subst hb; exact hnf vs hd
  · refine ⟨fun b o hbo => keep b o (fun q => by rw [q, hen] at hbo; cases hbo) (kb₁ b o hbo), hen, hl.of_keeps fun b o hb hnf => ?_, ?_⟩
    · obtain ⟨sl, hs⟩ := hs₁.2.2 b o hb
      exact ⟨_, keep b _ (noRecord b o hb hnf) hs, rfl⟩
    · exact ⟨_, _, h₁.objs.size, _, _, he₃, (Obj.cls_mapFields _ _).trans hcls, hd₃, by rw [Array.getElem?_setIfInBounds_ne (by decide)]; exact h0, by simp [hsz], kb₁.fresh, hTe, hT₃, hTd, by first | (simp; done) | (rcases hpl with rfl | ⟨_, _, _, _, _, _, _, rfl⟩ <;> simp)⟩
  · intro b o hb hnf
    obtain ⟨sl, hs⟩ := hs₁.2.2 b o hb
    exact ⟨sl, keep b _ (noRecord b o hb hnf) hs⟩
/-- the first frame notes -/
theorem fl_first {base : Heap} {env : Env} {outer : List Env} {L e : Addr} {oe : Obj} {vs : Array Value} {Q : Unit → Shared → Prop}
    (hfr : A.frames = some (env :: outer)) (hl : s.heap.FunFrames base (env :: outer)) (hf : env.frame = some L)
    (he : s.heap.get? e = some oe) (hcls : oe.cls = .type "TypeError") (hkb : base.StaysIn s.heap) (hen : base.get? e = none) (hd : oe.data = .fields vs) (h1 : vs[1]? = some .none) (h0 : vs[2]? = some .none)
    (h : ∀ h', Fl base (env :: outer) e (rawInt L) h' → s.heap.UpToSlots h' → Q () { s with heap := h' }) : wpAny M A (noteFrame (.ref e) env) Q E s := by
  unfold noteFrame
  simp only [hf]
  refine wpAny_bind (wpAny_field he hd h1 ?_)
  rw [if_neg (by decide)]
  exact fl_entry hfr hl hf he hcls hkb hen hd (Array.getElem?_eq_some_iff.mp h1).1 h0 h
theorem fl_next {base : Heap} {env : Env} {outer : List Env} {L e : Addr} {Q : Unit → Shared → Prop}
    (hfr : A.frames = some (env :: outer)) (hf : env.frame = some L) (F : Fl base (env :: outer) e .none s.heap)
    (h : ∀ h', Fl base (env :: outer) e (rawInt L) h' → s.heap.UpToSlots h' → Q () { s with heap := h' }) : wpAny M A (noteFrame (.ref e) env) Q E s := by
  obtain ⟨hkb, hen, hl, oe, vs, T, oT, ts, he, hcls, hd, h0, h1, hnT, hTe, hT, hdT, h3⟩ := F
  unfold noteFrame
  simp only [hf]
  refine wpAny_bind (wpAny_field he hd h1 ?_)
  rw [if_pos (show (Value.ref T != Value.none) = true from by simp)]
  refine wpAny_bind (wpAny_field hT hdT h3 ?_)
  rw [if_neg (show ¬ ((Value.none == rawInt L) = true) from by simp [rawInt])]
  refine wpAny_bind (wpAny_setField hT hdT (Array.getElem?_eq_some_iff.mp h3).1 ?_)
  have other : ∀ b, b ≠ T → (s.heap.update T (Obj.mapFields (·.setIfInBounds 3 Value.none))).get? b = s.heap.get? b := fun b hb => Heap.get?_update_other _ _ (Ne.symm hb)
  have noRecord : ∀ b o, s.heap.get? b = some o → (∀ vs, o.data ≠ .fields vs) → b ≠ T := fun b o hb hnf q => by
    rw [q, hT] at hb; injection hb with hb; subst hb; exact hnf ts hdT
  exact fl_entry hfr (hl.of_keeps fun b o hb hnf => ⟨o, (other b (noRecord b o hb hnf)).trans hb, rfl⟩) hf ((other e (Ne.symm hTe)).trans he) hcls
    (fun b o hbo => (other b fun q => by rw [q, hnT] at hbo; cases hbo).trans (hkb b o hbo)) hen hd (Array.getElem?_eq_some_iff.mp h1).1 h0
    fun h' x1 x4 => h h' x1 fun b o hb hnf => x4 b o ((other b (noRecord b o hb hnf)).trans hb) hnf
theorem fl_land {base : Heap} {l : List Env} {e : Addr} {fl : Value} {Q : Unit → Shared → Prop} (F : Fl base l e fl s.heap)
    (h : ∀ h', Fl base l e .none h' → s.heap.UpToSlots h' → Q () { s with heap := h' }) : wpAny M A (setFlight (.ref e) none) Q E s := by
  obtain ⟨hkb, hen, hl, oe, vs, T, oT, ts, he, hcls, hd, h0, h1, hnT, hTe, hT, hdT, h3⟩ := F
  have hsz3 : 3 < ts.size := (Array.getElem?_eq_some_iff.mp h3).1
  have other : ∀ b, b ≠ T → (s.heap.update T (Obj.mapFields (·.setIfInBounds 3 ((none : Option Addr).elim Value.none fun f => rawInt f)))).get? b = s.heap.get? b :=
    fun b hb => Heap.get?_update_other _ _ (Ne.symm hb)
  have noRecord : ∀ b o, s.heap.get? b = some o → (∀ vs, o.data ≠ .fields vs) → b ≠ T := fun b o hb hnf q => by
    rw [q, hT] at hb; injection hb with hb; subst hb; exact hnf ts hdT
  unfold setFlight
  refine wpAny_bind (wpAny_field he hd h1 ?_)
  rw [if_pos (show (Value.ref T != Value.none) = true from by simp)]
  refine wpAny_setField hT hdT hsz3 (h _ ⟨fun b o hbo => (other b fun q => by rw [q, hnT] at hbo; cases hbo).trans (hkb b o hbo), hen,
    hl.of_keeps fun b o hb hnf => ⟨o, (other b (noRecord b o hb hnf)).trans hb, rfl⟩, ?_⟩ fun b o hb hnf => ⟨o.slots, (other b (noRecord b o hb hnf)).trans hb⟩)
  exact ⟨oe, vs, T, _, _, (other e (Ne.symm hTe)).trans he, hcls, hd, h0, h1, hnT, hTe, Heap.get?_update_self _ hT (Obj.isFreed_of_fields (Obj.data_mapFields hdT _)), Obj.data_mapFields hdT _, by simp [hsz3]⟩
/-- a frame is left -/
theorem fl_leave {base : Heap} {env : Env} {outer : List Env} {L e : Addr} {Q : Unit → Shared → Prop}
    (hfr : A.frames = some (env :: outer)) (hf : env.frame = some L) (F : Fl base (env :: outer) e .none s.heap)
    (h : ∀ h', Fl base outer e .none h' → s.heap.UpToSlots h' → Q () { s with heap := h' }) : wpAny M A (leaving env (.ref e)) Q E s := by
  unfold leaving
  refine wpAny_bind (fl_next hfr hf F fun h1 F1 k1 => fl_land F1 fun h2 F2 k2 => h h2 ⟨F2.st, F2.en, F2.ff.2.2, F2.tr⟩ (k1.trans k2))
theorem fl_leaveNew {base h0 : Heap} {env : Env} {outer : List Env} {L e : Addr} {Q : Unit → Shared → Prop}
    (hfr : A.frames = some (env :: outer)) (hf : env.frame = some L) (hkb : base.StaysIn h0) (hl : h0.FunFrames base (env :: outer)) (hx : Heap.NewExc h0 s.heap e "TypeError")
    (h : ∀ h', Fl base outer e .none h' → h0.UpToSlots h' → Q () { s with heap := h' }) : wpAny M A (leaving env (.ref e)) Q E s := by
  obtain ⟨ob, tp, he, hcls, hd⟩ := hx.there
  have hen : base.get? e = none := by
    cases hq : base.get? e with
    | none => rfl
    | some o' => have := hkb e o' hq; rw [hx.new] at this; cases this
  unfold leaving
  refine wpAny_bind (fl_first hfr (hl.of_keeps fun b o hb _ => ⟨o, hx.keeps b o hb, rfl⟩) hf he hcls (fun b o hb => hx.keeps b o (hkb b o hb)) hen hd rfl rfl fun h1 F1 k1 => fl_land F1 fun h2 F2 k2 => h h2 ⟨F2.st, F2.en, F2.ff.2.2, F2.tr⟩ ((Heap.UpToSlots.of_keeps hx.keeps).trans (k1.trans k2)))
end
end Mine

open PySem PySem.W PyProof.Rows
set_option maxRecDepth 100000
namespace Mine
open PySem PySem.W PySem.Calls PyProof.Rows
theorem entry_unchain : entryFor table "proto.unchain" = some Builtin.«proto.unchain» := entryFor_of_tree (by kernel_rfl)
section
variable {prog : Program} {w : World} {A : Around} {E : Value → Shared → Prop} {s : Shared}
theorem unchain {a e : Addr} {oe : Obj} {vs : Array Value} {Q : Value → Shared → Prop} (he : s.heap.get? e = some oe) (hd : oe.data = .fields vs) (h2 : vs[2]? = some .none) (h : Q .none s) :
    wpAny (model prog w) A (runValue (.builtin "proto.unchain" ⟨[.ref a, .ref e, .ref e, .bool false], []⟩)) Q E s := by
  refine wpAny_runValue (codeAny_builtin entry_unchain ?_)
  unfold Builtin.«proto.unchain»
  show wpAny _ _ (field (.ref e) 2 >>= _) _ _ s
  refine wpAny_bind (wpAny_field he hd h2 ?_)
  show wpAny _ _ (if (Value.none == Value.none) = true then _ else _) _ _ s
  rw [if_pos (by decide)]
  show wpAny _ _ (ret .none) _ _ s
  exact wpAny_pure h
/-- the exception that is being handled, told -/
def Hd_ (e : Addr) (h : Heap) : Prop := ∃ oe vs, h.get? e = some oe ∧ oe.data = .fields vs ∧ vs[2]? = some .none
theorem Hd_.keeps {e : Addr} {h h' : Heap} (x : Hd_ e h) (k : ∀ o, h.get? e = some o → h'.get? e = some o) : Hd_ e h' := let ⟨oe, vs, a, b, c⟩ := x; ⟨oe, vs, k _ a, b, c⟩
theorem raiseNewH {α : Type} {a e : Addr} {oa : Obj} {va : Array Value} {Q : α → Shared → Prop} (hH : A.handled = some (.ref e)) (he : Hd_ e s.heap) (hne : e ≠ a) (ha : s.heap.get? a = some oa) (hd : oa.data = .fields va) (hz : 2 < va.size)
    (h : ∀ h', (∀ b o, b ≠ a → s.heap.get? b = some o → h'.get? b = some o) → (∃ o', h'.get? a = some o' ∧ o'.cls = oa.cls) → E (.ref a) { s with heap := h' }) : wpAny (model prog w) A (raiseNew (.ref a) : Sem α) Q E s := by
  obtain ⟨oe, vs, he, hde, h2⟩ := he
  unfold raiseNew
  refine wpAny_bind (wpAny_handled ?_)
  rw [hH]
  show wpAny _ _ (if (Value.ref e != Value.ref a) = true then _ else _) _ _ s
  rw [if_pos (by simpa using hne)]
  refine wpAny_bind (wpAny_holding (unchain he hde h2 ?_))
  refine wpAny_bind ?_
  unfold updateField
  refine wpAny_bind (wpAny_load ha ?_)
  rw [hd]
  dsimp only
  rw [if_pos hz]
  refine wpAny_update ha (wpAny_throw (h _ (fun b o hb e => (Heap.get?_update_other _ _ (Ne.symm hb)).trans e) ⟨_, Heap.get?_update_self _ ha ?_, ?_⟩))
  · exact Obj.isFreed_of_fields (Obj.data_mapFields hd _)
  · exact Obj.cls_mapFields _ _
theorem stop_newH {α : Type} {e : Addr} {Q : α → Shared → Prop} (hH : A.handled = some (.ref e)) (he : Hd_ e s.heap) (h : ∀ x h', Ext s.heap h' → (∀ (t : Nat), Shared.TypeIs { s with heap := h', toks := t } x "StopIteration") → E x { s with heap := h' }) :
    wpAny (model prog w) A (newExc (.type "StopIteration") [] >>= fun x => (raiseNew x : Sem α)) Q E s := by
  refine wpAny_bind ?_
  simp only [newExc, newTuple]
  refine wpAny_bind (wpAny_newObj_type ?_ (by size_fits))
  refine wpAny_bind (m := firstArgMember _ _) (wpAny_of_eq (a := Value.none) (by first | rfl | (simp only [firstArgMember]; rfl)) ?_)
  refine wpAny_newObj_type ?_ (by size_fits)
  dsimp only
  have hlt : e < s.heap.objs.size := let ⟨_, _, a, _⟩ := he; Heap.lt_size a
  refine raiseNewH hH (he.keeps fun o a => Heap.get?_push_of_some _ (Heap.get?_push_of_some _ a)) ?_ (Heap.get?_push_size _ rfl) rfl ?_ fun h' k1 k2 => ?_
  · rw [Heap.size_push]; exact Nat.ne_of_lt (Nat.lt_succ_of_lt hlt)
  · exact Nat.lt_of_lt_of_le (by decide : 2 < 6) (by simp)
  · obtain ⟨o', ho', hc⟩ := k2
    refine h _ _ (fun b o a => k1 b o ?_ (Heap.get?_push_of_some _ (Heap.get?_push_of_some _ a))) fun t => ⟨o', ho', hc⟩
    rw [Heap.size_push]; exact Nat.ne_of_lt (Nat.lt_succ_of_lt (Heap.lt_size a))
theorem list_endH {it l e : Addr} {i : Nat} {items : Array Value} {Q : Option Value → Shared → Prop} (hH : A.handled = some (.ref e)) (he : Hd_ e s.heap) (hne : e ≠ it)
    (hit : s.heap.IsListIter it l i) (hl : s.heap.IsList l items) (hx : items[i]? = none)
    (hQ : ∀ h', Heap.ExtBut it s.heap h' → Q none { s with heap := h' }) : wpAny (model prog w) A (pyNext (.ref it)) Q E s := by
  obtain ⟨o, ho, hc, hd⟩ := id hit
  obtain ⟨ol, hol, _, nl, hdl⟩ := hl
  unfold pyNext
  refine wpAny_bind (wpAny_attempt (wpAny_callSpecial?_slot (name := Str.ofString "__next__") hit.typeIs slot_listiter_next
    (wpAny_call_entry slot_listiter_next hit.typeIs entry_listiter_next ?_ (args_listiter_next _))))
  show wpAny _ _ (field (.ref it) 0 >>= _) _ _ s
  refine wpAny_bind (wpAny_field ho hd (x := .ref l) rfl ?_)
  show wpAny _ _ (if (Value.ref l == Value.none) = true then _ else _) _ _ s
  rw [if_neg (show ¬ ((Value.ref l == Value.none) = true) from Bool.false_ne_true)]
  show wpAny _ _ (field (.ref it) 1 >>= _) _ _ s
  refine wpAny_bind (wpAny_field ho hd (x := .int i 0) rfl ?_)
  show wpAny _ _ (seqItems? (.ref l) >>= _) _ _ s
  refine wpAny_bind (wpAny_seqItems hol hdl ?_)
  simp only [Int.toNat_natCast, hx]
  refine wpAny_bind (wpAny_rule (wpAny_bind (wpAny_setField ho hd (by simp) ?_)))
  refine stop_newH (A := A.in1) hH (he.keeps fun o a => (Heap.get?_update_other _ _ hne.symm).trans a) fun x h' k ht => ?_
  refine wpAny_bind (wpAny_isInstance (T := "StopIteration") (b := true) (ht _) isSubtype_stop ?_)
  exact wpAny_pure (hQ _ fun b o hb a => k b o ((Heap.get?_update_other _ _ (Ne.symm hb)).trans a))
theorem ascii_endH {it e : Addr} {x : Str} {t : Tok} {i : Nat} {Q : Option Value → Shared → Prop} (hH : A.handled = some (.ref e)) (he : Hd_ e s.heap) (hne : e ≠ it)
    (hit : s.heap.IsStrIter it "str_ascii_iterator" x t i) (hx : x.cps[i]? = none)
    (hQ : ∀ h', Heap.ExtBut it s.heap h' → Q none { s with heap := h' }) : wpAny (model prog w) A (pyNext (.ref it)) Q E s := by
  obtain ⟨o, ho, hc, hd⟩ := id hit
  unfold pyNext
  refine wpAny_bind (wpAny_attempt (wpAny_callSpecial?_slot (name := Str.ofString "__next__") hit.typeIs F.slot_str_ascii_iterator_next
    (wpAny_call_entry F.slot_str_ascii_iterator_next hit.typeIs F.entry_str_ascii_iterator_next ?_ (F.args_str_ascii_iterator_next_1 _))))
  show wpAny _ _ (field (.ref it) 0 >>= _) _ _ s
  refine wpAny_bind (wpAny_field ho hd (x := .str x t) rfl ?_)
  show wpAny _ _ (field (.ref it) 1 >>= _) _ _ s
  refine wpAny_bind (wpAny_field ho hd (x := .int i 0) rfl ?_)
  simp only [Int.toNat_natCast, hx]
  refine wpAny_bind (wpAny_rule (wpAny_bind (wpAny_setField ho hd (by simp) (wpAny_bind (wpAny_letGo ?_)))))
  refine stop_newH (A := A.in1) hH (he.keeps fun o a => (Heap.get?_update_other _ _ hne.symm).trans a) fun x h' k ht => ?_
  refine wpAny_bind (wpAny_isInstance (T := "StopIteration") (b := true) (ht _) isSubtype_stop ?_)
  exact wpAny_pure (hQ _ fun b o hb a => k b o ((Heap.get?_update_other _ _ (Ne.symm hb)).trans a))
theorem wide_endH {it e : Addr} {x : Str} {t : Tok} {i : Nat} {Q : Option Value → Shared → Prop} (hH : A.handled = some (.ref e)) (he : Hd_ e s.heap) (hne : e ≠ it)
    (hit : s.heap.IsStrIter it "str_iterator" x t i) (hx : x.cps[i]? = none)
    (hQ : ∀ h', Heap.ExtBut it s.heap h' → Q none { s with heap := h' }) : wpAny (model prog w) A (pyNext (.ref it)) Q E s := by
  obtain ⟨o, ho, hc, hd⟩ := id hit
  unfold pyNext
  refine wpAny_bind (wpAny_attempt (wpAny_callSpecial?_slot (name := Str.ofString "__next__") hit.typeIs F.slot_str_iterator_next
    (wpAny_call_entry F.slot_str_iterator_next hit.typeIs F.entry_str_iterator_next ?_ (F.args_str_iterator_next_1 _))))
  show wpAny _ _ (field (.ref it) 0 >>= _) _ _ s
  refine wpAny_bind (wpAny_field ho hd (x := .str x t) rfl ?_)
  show wpAny _ _ (field (.ref it) 1 >>= _) _ _ s
  refine wpAny_bind (wpAny_field ho hd (x := .int i 0) rfl ?_)
  simp only [Int.toNat_natCast, hx]
  refine wpAny_bind (wpAny_rule (wpAny_bind (wpAny_setField ho hd (by simp) (wpAny_bind (wpAny_letGo ?_)))))
  refine stop_newH (A := A.in1) hH (he.keeps fun o a => (Heap.get?_update_other _ _ hne.symm).trans a) fun x h' k ht => ?_
  refine wpAny_bind (wpAny_isInstance (T := "StopIteration") (b := true) (ht _) isSubtype_stop ?_)
  exact wpAny_pure (hQ _ fun b o hb a => k b o ((Heap.get?_update_other _ _ (Ne.symm hb)).trans a))
end
end Mine

open PySem PySem.W PyProof.Rows
set_option maxRecDepth 100000
namespace Mine
open PySem PySem.W PySem.Calls PyProof.Rows
section
variable {prog : Program} {w : World} {A : Around} {e : Addr}
theorem Walks.asciiH (hH : A.handled = some (.ref e)) (I : Addr) (hne : e ≠ I) (x : Str) (t : Tok) :
    Walks prog w A I [I, e] [I] x.cps.size (SignAt x) (fun i h => h.IsStrIter I "str_ascii_iterator" x t i ∧ Hd_ e h) where
  sub := fun _ hb => by simp at hb; simp [hb]
  frame := fun _ _ _ st hk => ⟨let ⟨o, ho, r⟩ := st.1; ⟨o, hk I (by simp) o ho, r⟩, st.2.keeps fun o a => hk e (by simp) o a⟩
  item := fun i s Q E hi st hQ => by
    refine wpAny_pyNext_ascii_item st.1 (c := x.cps[i]) (by simp [hi]) fun h' hit' hs' => ?_
    exact hQ _ h' (s.toks + 1) ⟨_, _, by simp [hi], rfl⟩ ⟨hit', st.2.keeps fun o a => (hs'.2 e hne).trans a⟩ fun b o hb e => hs'.extBut b o (fun h => hb (by simp [h])) e
  done := fun s Q E st hQ => ascii_endH hH st.2 hne st.1 (by simp) fun h' he' => hQ h' s.toks fun b o hb e => he' b o (fun h => hb (by simp [h])) e
  self := fun _ _ _ _ st hQ => wpAny_pyIter_striter_ascii st.1 hQ
theorem Walks.wideH (hH : A.handled = some (.ref e)) (I : Addr) (hne : e ≠ I) (x : Str) (t : Tok) :
    Walks prog w A I [I, e] [I] x.cps.size (SignAt x) (fun i h => h.IsStrIter I "str_iterator" x t i ∧ Hd_ e h) where
  sub := fun _ hb => by simp at hb; simp [hb]
  frame := fun _ _ _ st hk => ⟨let ⟨o, ho, r⟩ := st.1; ⟨o, hk I (by simp) o ho, r⟩, st.2.keeps fun o a => hk e (by simp) o a⟩
  item := fun i s Q E hi st hQ => by
    refine wpAny_pyNext_wide_item st.1 (c := x.cps[i]) (by simp [hi]) fun h' hit' hs' => ?_
    exact hQ _ h' (s.toks + 1) ⟨_, _, by simp [hi], rfl⟩ ⟨hit', st.2.keeps fun o a => (hs'.2 e hne).trans a⟩ fun b o hb e => hs'.extBut b o (fun h => hb (by simp [h])) e
  done := fun s Q E st hQ => wide_endH hH st.2 hne st.1 (by simp) fun h' he' => hQ h' s.toks fun b o hb e => he' b o (fun h => hb (by simp [h])) e
  self := fun _ _ _ _ st hQ => wpAny_pyIter_striter_wide st.1 hQ
theorem Walks.listH (hH : A.handled = some (.ref e)) (I ax : Addr) (hne : ax ≠ I) (hne' : e ≠ I) (items : Array Value) :
    Walks prog w A I [I, ax, e] [I] items.size (fun i v => items[i]? = some v) (fun i h => (h.IsListIter I ax i ∧ h.IsList ax items) ∧ Hd_ e h) where
  sub := fun b hb => by simp at hb; simp [hb]
  frame := fun _ _ _ st hk => ⟨⟨st.1.1.at fun o e => hk I (by simp) o e, st.1.2.at fun o e => hk ax (by simp) o e⟩, st.2.keeps fun o a => hk e (by simp) o a⟩
  item := fun i s Q E hi st hQ => by
    refine wpAny_pyNext_list_item st.1.1 st.1.2 (x := items[i]) (by simp [hi]) fun h' hit' hs' => ?_
    exact hQ _ h' s.toks (by simp [hi]) ⟨⟨hit', st.1.2.extBut hs'.extBut hne⟩, st.2.keeps fun o a => (hs'.2 e hne').trans a⟩ fun b o hb e => hs'.extBut b o (fun h => hb (by simp [h])) e
  done := fun s Q E st hQ => list_endH hH st.2 hne' st.1.1 st.1.2 (by simp) fun h' he' => hQ h' s.toks fun b o hb e => he' b o (fun h => hb (by simp [h])) e
  self := fun _ _ _ _ st hQ => wpAny_pyIter_listiter st.1.1 hQ
theorem Hd_.lt {h : Heap} (x : Hd_ e h) : e < h.objs.size := let ⟨_, _, a, _⟩ := x; Heap.lt_size a
theorem Src.strH {h₁ : Heap} {x : Str} {t : Tok} (hH : A.handled = some (.ref e)) (he : Hd_ e h₁) : Src prog w A (.str x t) h₁ x.cps.size (SignAt x) := fun s Q E hs q => by
  subst hs
  have hne : e ≠ s.heap.objs.size := Nat.ne_of_lt he.lt
  have fpb : ∀ o : Obj, ∀ b ∈ [s.heap.objs.size, e], b < (s.heap.push o).objs.size := fun o b hb => by
    rw [Heap.size_push]
    rcases List.mem_cons.mp hb with rfl | hb
    · exact Nat.lt_succ_self _
    · rw [List.mem_singleton.mp hb]; exact Nat.lt_succ_of_lt he.lt
  cases ha : x.cps.all (· < 128)
  · exact wpAny_pyIter_wide ha (q _ _ _ s.toks _ _ (push_ext _ _) (Walks.wideH hH _ hne x t) ⟨⟨_, Heap.get?_push_size _ rfl, rfl, rfl⟩, he.keeps fun o a => Heap.get?_push_of_some _ a⟩ (fpb _) fun b hb => by rw [List.mem_singleton.mp hb]; exact push_none _)
  · exact wpAny_pyIter_ascii ha (q _ _ _ s.toks _ _ (push_ext _ _) (Walks.asciiH hH _ hne x t) ⟨⟨_, Heap.get?_push_size _ rfl, rfl, rfl⟩, he.keeps fun o a => Heap.get?_push_of_some _ a⟩ (fpb _) fun b hb => by rw [List.mem_singleton.mp hb]; exact push_none _)
theorem Src.listH {h₁ : Heap} {l : Addr} {vs : List Value} (hH : A.handled = some (.ref e)) (he : Hd_ e h₁) (hl : h₁.IsList l vs.toArray) : Src prog w A (.ref l) h₁ vs.length fun i v => vs[i]? = some v := fun s Q E hs q => by
  subst hs
  have hlt : l < s.heap.objs.size := let ⟨o, ho, _⟩ := hl; Heap.lt_size ho
  have W := Walks.listH (prog := prog) (w := w) hH s.heap.objs.size l (Nat.ne_of_lt hlt) (Nat.ne_of_lt he.lt) vs.toArray
  have e : (fun (i : Nat) (v : Value) => vs.toArray[i]? = some v) = fun i v => vs[i]? = some v := by funext i v; simp
  rw [e, List.size_toArray] at W
  refine wpAny_pyIter_list hl (q _ _ _ s.toks _ _ (push_ext _ _) W ⟨⟨⟨_, Heap.get?_push_size _ rfl, rfl, rfl⟩, ?_⟩, he.keeps fun o a => Heap.get?_push_of_some _ a⟩ (fun b hb => ?_) fun b hb => ?_)
  · obtain ⟨o, ho, r⟩ := hl
    exact ⟨o, Heap.get?_push_of_some _ ho, r⟩
  · rw [Heap.size_push]
    rcases List.mem_cons.mp hb with rfl | hb
    · exact Nat.lt_succ_self _
    · rcases List.mem_cons.mp hb with rfl | hb
      · exact Nat.lt_succ_of_lt hlt
      · rw [List.mem_singleton.mp hb]; exact Nat.lt_succ_of_lt he.lt
  · rw [List.mem_singleton.mp hb]; exact push_none _
theorem sum_okNH {K : Frag} {I : Heap → Prop} {l : Addr} {vs : List Value} {ns : List Nat} (hI : Okk K I) (hH : A.handled = some (.ref e)) (he : ∀ h, I h → Hd_ e h) (hi : AllN ns vs) (hl : ∀ h, I h → h.IsList l vs.toArray) (hz : ns.length ≤ 1000000) : ∀ as, AllV [IsR l] as → Tr (model prog w) A I (call (.builtin "sum") as []) fun a h' => IsN ns.sum a ∧ I h' := by
  refine all1 fun a ha h hh' => Run.mk fun s Q E hs q => ?_
  cases ha
  have x := hl _ hh'
  refine call_sum_walkG (Src.listH (A := A.in1) hH (he _ hh') x s _ E hs fun It T h' k fp wr hE W h0 hfp hwr => ?_)
  refine ⟨It, fp, wr, vs.length, _, T, fun i => (ns.getD i 0 : Int), rfl, W, h0, hfp, fun i v hv => ?_, fun h2 tk t' hk => q _ h2 tk ⟨?_, hI.grow _ _ hh' fun b o e => hk b o (fun z => by rw [hwr b z] at e; cases e) (hE b o e)⟩⟩
  · obtain ⟨n, hn, hv⟩ := AllV.at hi hv
    show IsI ((ns.getD i 0 : Nat) : Int) v
    rw [List.getD_eq_getElem?_getD, hn]
    exact hv
  · rw [hi.length, preSum_all]
    exact ⟨t', rfl⟩
end
end Mine

open PySem PySem.W PyProof.Rows
set_option maxRecDepth 100000
namespace Mine
open PySem PySem.W PySem.Calls PyProof.Rows
/-- t, run from a heap of I, raises -/
def Tz {α : Type} (M : Model) (A : Around) (I : Heap → Prop) (t : Sem α) (R : Addr → Heap → Prop) : Prop :=
  ∀ (s : Shared) (Q : α → Shared → Prop) (E : Value → Shared → Prop), I s.heap → (∀ e h' k, R e h' → E (.ref e) { s with heap := h', toks := k }) → wpAny M A t Q E s
section
variable {prog : Program} {w : World} {A : Around} {I : Heap → Prop} {env : Env} {R : Addr → Heap → Prop}
theorem Tz.if_ {test : Expr} {body orelse rest : List Stmt} {pos : Pos} (t : Tv (model prog w) A I env test true) (hb : Tz (model prog w) A I (execs body env) R) : Tz (model prog w) A I (execs (.If test body orelse pos :: rest) env) R := fun s Q E hI q =>
  wpAny_execs_cons (wpAny_If ((t _ hI).bindK rfl fun c h1 k1 r1 => by
    obtain ⟨rfl, hh1⟩ := r1
    exact hb _ _ _ hh1 q))
theorem Tz.ret {e : Expr} {pos : Pos} {rest : List Stmt} (x : Tz (model prog w) A I (eval e env) R) : Tz (model prog w) A I (execs (.Return (some e) pos :: rest) env) R := fun s Q E hI q =>
  wpAny_execs_cons (wpAny_Return_some (x s _ _ hI q))
theorem Tz.set {x : Str} {p pos : Pos} {e : Expr} {rest : List Stmt} (h : Tz (model prog w) A I (eval e env) R) (hs : swapsWith e (some (.Name x p)) pos.line env = pure false := by rfl) : Tz (model prog w) A I (execs (.Assign [.Name x p] e pos :: rest) env) R := fun s Q E hI q =>
  wpAny_execs_cons (wpAny_Assign_Name (hs := hs) (h s _ _ hI q))
theorem Tz.binL {op : Operator} {l r : Expr} {pos : Pos} (x : Tz (model prog w) A I (eval l env) R) : Tz (model prog w) A I (eval (.BinOp l op r pos) env) R := fun s Q E hI q =>
  wpAny_BinOp (x s _ _ hI q)
theorem Tz.arg {fe e : Expr} {pos : Pos} {id : String} (hf : Ev (model prog w) A I env fe (IsV (.builtin id))) (x : Tz (model prog w) A I (eval e env) R)
    (he : starEach [e] env = (false, eval e env) :: starEach [] env := by rfl) (hplain : (backTo pos (starEach [] env)).any (·.1) = false := by rfl)
    (hcall : eval (.Call fe [e] [] pos) env = (do callWith pos (← eval fe env) [] (backTo pos (starEach [e] env)) (backToKw pos (keywordEach [] env))) := by rfl) :
    Tz (model prog w) A I (eval (.Call fe [e] [] pos) env) R := fun s Q E hI q => by
  refine Call_ (he := hcall) ((hf _ hI).bindK rfl fun v h1 k1 r1 => ?_)
  obtain ⟨r1, hh1⟩ := r1
  cases r1
  exact callWith_method1 (he := he) (hplain := hplain) (args_cons (he := he) (x _ _ _ hh1 q))
theorem Tz.callB {fe e : Expr} {pos : Pos} {id : String} {V : Value → Prop} (hf : Ev (model prog w) A I env fe (IsV (.builtin id))) (x : Ev (model prog w) A I env e V) (c : ∀ v, V v → Tz (model prog w) A I (call (.builtin id) [v] []) R)
    (he : starEach [e] env = (false, eval e env) :: starEach [] env := by rfl) (hplain : (backTo pos (starEach [] env)).any (·.1) = false := by rfl)
    (hcall : eval (.Call fe [e] [] pos) env = (do callWith pos (← eval fe env) [] (backTo pos (starEach [e] env)) (backToKw pos (keywordEach [] env))) := by rfl) :
    Tz (model prog w) A I (eval (.Call fe [e] [] pos) env) R := fun s Q E hI q => by
  refine Call_ (he := hcall) ((hf _ hI).bindK rfl fun v h1 k1 r1 => ?_)
  obtain ⟨r1, hh1⟩ := r1
  cases r1
  refine callWith_method1 (he := he) (hplain := hplain) ((Es.cons (he := he) x Es.nil pos h1 hh1).bindK rfl fun vs h2 k2 r2 => ?_)
  obtain ⟨hv, i⟩ := r2
  match vs, hv with
  | [u], hu => exact c u hu.1 _ _ _ i q
theorem Tz.callD {K : Frag} {fe e : Expr} {pos : Pos} {f : Addr} {V : Value → Prop} (hI : Okk K I) (hf : Ev (model prog w) A I env fe (IsR f)) (hk : keepIn K (.ref f) = true) (x : Ev (model prog w) A I env e V) (c : ∀ v, V v → Tz (model prog w) A I (call (.ref f) [v] []) R)
    (he : starEach [e] env = (false, eval e env) :: starEach [] env := by rfl) (hplain : (backTo pos (starEach [] env)).any (·.1) = false := by rfl)
    (hcall : eval (.Call fe [e] [] pos) env = (do callWith pos (← eval fe env) [] (backTo pos (starEach [e] env)) (backToKw pos (keywordEach [] env))) := by rfl) :
    Tz (model prog w) A I (eval (.Call fe [e] [] pos) env) R := fun s Q E hh q => by
  refine Call_ (he := hcall) ((hf _ hh).bindK rfl fun v h1 k1 r1 => ?_)
  obtain ⟨r1, hh1⟩ := r1
  cases r1
  refine callWith_K (he := he) (hplain := hplain) (hI.wd _ hh1).1 hk ((Es.cons (he := he) x Es.nil pos h1 hh1).bindK rfl fun vs h2 k2 r2 => ?_)
  obtain ⟨hv, i⟩ := r2
  match vs, hv with
  | [u], hu => exact ⟨(hI.wd _ i).1, c u hu.1 _ _ _ i q⟩
/-- a frame of a def ahead of the others -/
theorem Fm.ff {K : Frag} {h₀ h base : Heap} {L : Addr} {m : Str → Option Value} {l : List Env} (F : Fm K h₀ L m h) (hL : h₀.objs.size = L) (hkb : base.StaysIn h₀) (hl : h₀.FunFrames base l) (hk : env.scope.kind = .function) (hf : env.frame = some L) : h.FunFrames base (env :: l) := by
  obtain ⟨o, es, ep, ho, hd, _⟩ := F.1.ns
  refine ⟨by rw [hk]; decide, ⟨L, o, hf, ?_, ho, fun vs e => by rw [hd] at e; cases e⟩, hl.of_keeps fun b o e _ => ⟨o, F.1.keep b o e, rfl⟩⟩
  rw [← hL]
  exact Heap.StaysIn.fresh hkb
theorem Tz.of_body {K : Frag} {P : Heap → Prop} {f : Addr} {args : List Value} {binds : List (Str × Value)} {n : Nat} {R1 : Heap → Addr → Addr → Heap → Prop}
    {name qual : Str} {params : Arguments} {body : List Stmt} {scope : Scope} {dV kV doc pm cdv ct oc : Value} {an od : Option Addr} {osl : Array (Option Value)}
    (r : Room A (n + 1)) (ho : K.lookup f = some ⟨oc, od, .func (fnOf name qual params body scope dV kV doc pm an cdv ct), osl⟩) (hcd : codeIn K cdv qual = true)
    (hbind : bindArgs (fnOf name qual params body scope dV kV doc pm an cdv ct) ⟨args, []⟩ = pure binds)
    (hcell : scope.names.all (fun x => x.2 != .cell) = true)
    (hloc : binds.all (fun x => scope.names.lookup x.1 == some .local) = true)
    (hs : (scope.isCoroutine, scope.isGenerator, scope.kind) = (false, false, .function))
    (h : ∀ (h₀ : Heap) (L : Addr), Wd K h₀ → P h₀ → h₀.objs.size = L → Tz (model prog w) (A.deeper (envOf qual scope L f cdv)) (Fm K h₀ L (fun x => binds.reverse.lookup x)) (execs body (envOf qual scope L f cdv)) (R1 h₀ L))
    (hl : ∀ (h₀ : Heap) (L e : Addr) (s : Shared) (Q : Unit → Shared → Prop) (E : Value → Shared → Prop), Wd K h₀ → P h₀ → h₀.objs.size = L → R1 h₀ L e s.heap → (∀ h' k, R e h' → Q () { s with heap := h', toks := k }) → wpAny (model prog w) (A.deeper (envOf qual scope L f cdv)) (leaving (envOf qual scope L f cdv) (.ref e)) Q E s) :
    Tz (model prog w) A (fun h => Wd K h ∧ P h) (call (.ref f) args []) R := fun s Q E ⟨W, hP⟩ q => by
  injection hs with h1 h2
  injection h2 with h2 h3
  refine wpAny_call (codeAny_call_def r.room (W.1 _ _ ho) rfl W.nolimit (codeRec_of W.1 hcd) rfl (.of_eq hbind) ?_ ?_ (fun h₁ hn hk => ?_) h1 h2 h3)
  · intro x hx e
    have := List.all_eq_true.mp hcell x hx
    rw [e] at this
    cases this
  · intro x hx
    exact beq_iff_eq.mp (List.all_eq_true.mp hloc x hx)
  · exact h s.heap s.heap.objs.size W hP rfl _ _ _ ⟨⟨hn, hk, Nat.le_refl _⟩, W⟩ fun e h' k rr => hl s.heap _ e _ _ _ W hP rfl rr fun h2 k2 r2 => q e h2 k2 r2
theorem Fl.other {base h : Heap} {e e' : Env} {l : List Env} {x : Addr} {fl : Value} (F : Fl base (e :: l) x fl h) (hk : e'.scope.kind = .function) (hf : e'.frame = e.frame) : Fl base (e' :: l) x fl h :=
  ⟨F.st, F.en, ⟨by rw [hk]; decide, hf ▸ F.ff.2.1, F.ff.2.2⟩, F.tr⟩
theorem k_ctoi (w : World) : keepIn (KK w) (.ref 63) = true := by kernel_rfl
theorem k_ctrl (w : World) : keepIn (KK w) (.ref 175) = true := by kernel_rfl
structure Flt (base : Heap) (l : List Env) (I : Heap → Prop) (h : Heap) : Prop where
  st : base.StaysIn h
  ff : h.FunFrames base l
  i : I h
theorem rz_ctoi {x : Str} {v : Value} {l : List Env} {base : Heap} (r : Room A 1) (hh : A.handled = none) (hv : IsStr x v) (hn : x.cps.size ≠ 1) (hz : x.cps.size ≤ 30) (hfr : A.frames = some l) :
    Tz (model prog w) A (fun h => Wd (KK w) h ∧ Flt base l I h) (call (.ref 63) [v] []) fun e h' => ∃ g, I g ∧ Fl base l e .none h' ∧ g.UpToSlots h' := by
  refine Tz.of_body (binds := [(PySem.Str.ofString "c", v)]) (R1 := fun h₀ L e h' => ∃ g, Fm (KK w) h₀ L (fun y => [(PySem.Str.ofString "c", v)].reverse.lookup y) g ∧ Heap.NewExc g h' e "TypeError") r (kk_look (by k_is)) (kk_code (by k_is)) rfl rfl rfl rfl (fun h₀ L W hP hL => ?_) (fun h₀ L e s Q E W hP hL rr q => ?_)
  · refine Tz.if_ (Tv.plain (Ev.callB (Ev.builtin Fm.okk (g_isinstance w) boot_isinstance (by decide)) (Es.cons (Ev.loc rfl) (Es.cons (Ev.builtin Fm.okk (g_str w) boot_str (by decide)) Es.nil)) (isinst_str hv)) tr_bool)
      (Tz.ret (Tz.callB (Ev.builtin Fm.okk (g_ord w) boot_ord (by decide)) (Ev.loc rfl) fun u hu s1 Q1 E1 F1 q1 => ?_))
    cases hu
    obtain ⟨t, rfl⟩ := hv
    exact ord_raises hh hn hz fun h' tk e hx => q1 e h' tk ⟨_, F1, hx⟩
  · obtain ⟨g, Fg, hx⟩ := rr
    refine fl_leaveNew (h0 := g) (Around.frames_deeper hfr) rfl (fun b o e => Fg.1.keep b o (hP.st b o e)) (Fg.ff hL hP.st hP.ff rfl rfl) hx fun h2 F2 k2 => q h2 _ ⟨_, hP.i, F2, (Heap.UpToSlots.of_keeps Fg.1.keep).trans k2⟩
theorem rz_ctrl {x : Str} {v : Value} {l : List Env} {base : Heap} (r : Room A 2) (hh : A.handled = none) (hv : IsStr x v) (hn : x.cps.size ≠ 1) (hz : x.cps.size ≤ 30) (hfr : A.frames = some l) :
    Tz (model prog w) A (fun h => Wd (KK w) h ∧ Flt base l I h) (call (.ref 175) [v] []) fun e h' => ∃ g, I g ∧ Fl base l e .none h' ∧ g.UpToSlots h' := by
  refine Tz.of_body (binds := [(PySem.Str.ofString "c", v)]) (R1 := fun h₀ L e h' => ∃ g, Fm (KK w) h₀ L (fun y => [(PySem.Str.ofString "c", v)].reverse.lookup y) g ∧ ∃ env, env.frame = some L ∧ Fl base (env :: l) e .none h' ∧ g.UpToSlots h') r (kk_look (by k_is)) (kk_code (by k_is)) rfl rfl rfl rfl (fun h₀ L W hP hL => ?_) (fun h₀ L e s Q E W hP hL rr q => ?_)
  · refine Tz.if_ (Tv.plain (Ev.callB (Ev.builtin Fm.okk (g_isinstance w) boot_isinstance (by decide)) (Es.cons (Ev.loc rfl) (Es.cons (Ev.builtin Fm.okk (g_str w) boot_str (by decide)) Es.nil)) (isinst_str hv)) tr_bool)
      (Tz.ret (Tz.arg (Ev.builtin Fm.okk (g_chr w) boot_chr (by decide)) (Tz.binL (Tz.callD Fm.okk (Ev.global Fm.okk (g_ctoi w)) (k_ctoi w) (Ev.loc rfl) fun u hu s1 Q1 E1 F1 q1 => ?_))))
    cases hu
    exact rz_ctoi (base := base) (I := Fm (KK w) h₀ L (fun y => [(PySem.Str.ofString "c", v)].reverse.lookup y)) ((r.deeper _).less (by decide)) hh hv hn hz (Around.frames_deeper hfr) s1 Q1 E1 ⟨Fm.okk.wd _ F1, fun b o e => F1.1.keep b o (hP.st b o e), F1.ff hL hP.st hP.ff rfl rfl, F1⟩ fun e h' k ⟨g, i, a, b⟩ => q1 e h' k ⟨g, i, _, rfl, a, b⟩
  · obtain ⟨g, Fg, env, hf, hfl, hk2⟩ := rr
    refine fl_leave (Around.frames_deeper hfr) rfl (hfl.other rfl (by rw [hf]; rfl)) fun h2 F2 k2 => q h2 _ ⟨_, hP.i, F2, (Heap.UpToSlots.of_keeps Fg.1.keep).trans (hk2.trans k2)⟩
end
end Mine

open PySem PySem.W PyProof.Rows
set_option maxRecDepth 100000
namespace Mine
open PySem PySem.W PySem.Calls PyProof.Rows
section
variable {K : Frag} {h₀ g h' : Heap} {L : Addr} {cs : List (Str × Addr)} {m cm : Str → Option Value} {led : Ledger} {fs : List Addr}
theorem NsM.slots {m : Str → Option Value} {o : Obj} {sl : Array (Option Value)} (x : NsM m o) : NsM m { o with slots := sl } := x
theorem NsM.nf {m : Str → Option Value} {o : Obj} (x : NsM m o) : ∀ vs, o.data ≠ .fields vs := fun vs e => by
  obtain ⟨es, ep, h, _⟩ := x
  rw [h] at e; cases e
/-- frames whose slots alone have changed -/
theorem St.slots (S : St K h₀ L cs m cm led g) (hst : (hideAll g fs).StaysIn h') (hu : g.UpToSlots h') (hfs : ∀ b ∈ fs, b = L ∨ ∃ m₀, (b, NsM m₀) ∈ led) : St K h₀ L cs m cm led h' := by
  have keep : ∀ b o, b ∉ fs → g.get? b = some o → h'.get? b = some o := fun b o hb e => hst b o (hideAll_get _ e hb)
  have hL0 : h₀.get? L = none := Heap.get?_none_of_le S.fr.above
  have nf : ∀ b o, h₀.get? b = some o → b ∉ fs := fun b o e hb => by
    rcases hfs b hb with rfl | ⟨m₀, hm⟩
    · rw [hL0] at e; cases e
    · rw [(S.ld _ hm).2.2.1] at e; cases e
  refine ⟨⟨hu.ns S.fr.ns, fun b o e => keep b o (nf b o e) (S.fr.keep b o e), S.fr.above⟩, ⟨fun n c e => ?_, S.cl.apart, S.cl.above⟩, S.wd, fun p hp => ?_, S.nd, S.nn⟩
  · obtain ⟨o, ho, hd⟩ := S.cl.cell n c e
    refine ⟨o, keep c o (fun hb => ?_) ho, hd⟩
    rcases hfs c hb with rfl | ⟨m₀, hm⟩
    · exact Nat.lt_irrefl _ (S.cl.above n _ (mem_of_lookup e))
    · exact (S.ld _ hm).2.2.2 _ (mem_of_lookup e) rfl
  · obtain ⟨⟨o, ho, hP⟩, r⟩ := S.ld p hp
    refine ⟨?_, r⟩
    by_cases hb : p.1 ∈ fs
    · rcases hfs _ hb with e | ⟨m₀, hm⟩
      · exact absurd e r.1
      · obtain ⟨i, hi, ei⟩ := List.getElem_of_mem hp
        obtain ⟨j, hj, ej⟩ := List.getElem_of_mem hm
        have hij : i = j := by
          have h1 : (ads led)[i]? = some p.1 := by unfold ads; rw [List.getElem?_map, List.getElem?_eq_getElem hi, ei]; rfl
          have h2 : (ads led)[j]? = some p.1 := by unfold ads; rw [List.getElem?_map, List.getElem?_eq_getElem hj, ej]; rfl
          exact (List.getElem?_inj (by unfold ads; rw [List.length_map]; exact hi) S.nd).mp (h1.trans h2.symm)
        subst hij
        rw [ei] at ej
        obtain ⟨pa, pP⟩ := p
        cases ej
        obtain ⟨sl, hs⟩ := hu _ _ ho hP.nf
        exact ⟨_, hs, hP⟩
    · exact ⟨o, keep _ o hb ho, hP⟩
/-- an exception that is being handled -/
def HdP (o : Obj) : Prop := ∃ vs, o.data = .fields vs ∧ vs[2]? = some .none
theorem St.hd {h : Heap} {e : Addr} (S : St K h₀ L cs m cm led h) (i : Nat) (hi : led[i]? = some (e, HdP)) : Hd_ e h := by
  obtain ⟨o, ho, vs, hd, h2⟩ := S.has hi
  exact ⟨o, vs, ho, hd, h2⟩
theorem St.flown {l : List Env} {e : Addr} (S : St K h₀ L cs m cm led g) (F : Fl (hideAll g (l.filterMap (·.frame))) l e .none h') (hu : g.UpToSlots h') (hfs : ∀ b ∈ l.filterMap (·.frame), b = L ∨ ∃ m₀, (b, NsM m₀) ∈ led) : St K h₀ L cs m cm ((e, HdP) :: led) h' := by
  have S' := S.slots F.st hu hfs
  obtain ⟨oe, vs, T, oT, ts, he, hcls, hd, h0, _⟩ := F.tr
  refine S.addN (P := HdP) S' rfl ?_ he ⟨vs, hd, h0⟩
  have hef : e ∉ l.filterMap (·.frame) := fun hb => by
    obtain ⟨_, o, ho, hnf⟩ := F.ff.mem hb
    rw [he] at ho; cases ho
    exact hnf _ hd
  cases q : g.get? e with
  | none => rfl
  | some o => have := hideAll_get (l.filterMap (·.frame)) q hef; rw [F.en] at this; cases this
end
section
variable {prog : Program} {w : World} {A : Around} {K : Frag} {env : Env} {h₀ : Heap} {L : Addr} {cs : List (Str × Addr)} {m cm : Str → Option Value} {led : Ledger}
theorem Tr.tryOk {body : List Stmt} {hd : ExceptHandler} {pos : Pos} {I J : Heap → Prop} {F : Flow → Heap → Prop} (hb : Ex (model prog w) A I env body (nx J F)) :
    Tr (model prog w) A I (exec (.Try body [hd] [] [] pos) env) (nx J F) := fun h hh => Run.mk fun s Q E hs q => by
  refine wpAny_Try_except ((hb h hh).bindK hs fun fl h1 k1 r1 => ?_)
  cases fl with
  | next => exact wpAny_execs_nil (q .next h1 k1 r1)
  | ret v => exact q (.ret v) h1 k1 r1
  | brk => exact q .brk h1 k1 r1
  | cont => exact q .cont h1 k1 r1
theorem TypeError_exc : isSubtype (.type "TypeError") (.type "BaseException") = pure true := by rw [isSubtype_type]; kernel_rfl
theorem TypeError_nt : isSubtype (.type ((Manifest.find? "TypeError").elim "type" fun x => x.metatype)) (.type "tuple") = pure false := by rw [isSubtype_type]; kernel_rfl
theorem TypeError_self : isSubtype (.type "TypeError") (.type "TypeError") = pure true := by rw [isSubtype_type]; kernel_rfl
theorem Tr.tryTE {body suite : List Stmt} {b₀ : Stmt} {t : Expr} {hp pos : Pos} {outer : List Env} {J : Heap → Prop} {F : Flow → Heap → Prop}
    (hfr : A.frames = some (env :: outer)) (hf : env.frame = some L) (hfs : ∀ b ∈ (env :: outer).filterMap (·.frame), b = L ∨ ∃ m₀, (b, NsM m₀) ∈ led)
    (hz : Tz (model prog w) A (St K h₀ L cs m cm led) (execs body env) fun e h' => ∃ g, St K h₀ L cs m cm led g ∧ Fl (hideAll g ((env :: outer).filterMap (·.frame))) (env :: outer) e .none h' ∧ g.UpToSlots h')
    (ht : ∀ (e : Addr) (I : Heap → Prop), Okk K I → Ev (model prog w) (A.mark (some (.ref e))) I env t (IsV (.type "TypeError")))
    (hh : ∀ e, Ex (model prog w) (A.mark (some (.ref e))) (St K h₀ L cs m cm ((e, HdP) :: led)) env (b₀ :: suite) (nx J F)) :
    Tr (model prog w) A (St K h₀ L cs m cm led) (exec (.Try body [.ExceptHandler (some t) none (b₀ :: suite) hp] [] [] pos) env) (nx J F) := fun h S => Run.mk fun s Q E hs q => by
  subst hs
  refine wpAny_Try_except (hz s _ _ S fun e h1 k1 r1 => ?_)
  obtain ⟨g, Sg, F1, u1⟩ := r1
  refine fl_next hfr hf F1 fun h2 F2 u2 => fl_land F2 fun h3 F3 u3 => ?_
  have okk : Okk K fun h => (Fl (hideAll g ((env :: outer).filterMap (·.frame))) (env :: outer) e .none h ∧ g.UpToSlots h) ∧ Wd K h :=
    ⟨fun a b r k => ⟨⟨⟨fun x o z => k _ _ (r.1.1.st x o z), r.1.1.en, r.1.1.ff.of_keeps fun x o z _ => ⟨o, k _ _ z, rfl⟩, (by
      obtain ⟨oe, vs, T, oT, ts, a1, a2, a3, a4, a5, a6, a7, a8, a9⟩ := r.1.1.tr
      exact ⟨oe, vs, T, oT, ts, k _ _ a1, a2, a3, a4, a5, a6, a7, k _ _ a8, a9⟩)⟩, r.1.2.trans (Heap.UpToSlots.of_keeps k)⟩, r.2.ext k⟩, fun a r => r.2⟩
  have S3 := Sg.flown F3 (u1.trans (u2.trans u3)) hfs
  refine wpAny_handleBy_builtin (X := "TypeError") (b := true) TypeError_exc TypeError_nt TypeError_self ((ht e _ okk h3 ⟨⟨F3, u1.trans (u2.trans u3)⟩, S3.wdh⟩).bindK rfl fun c h4 k4 r4 => ?_)
  obtain ⟨rc, ⟨F4, u4⟩, W4⟩ := r4
  obtain ⟨oe, vs, T, oT, ts, a1, a2, _⟩ := F4.tr
  refine ⟨rc, ⟨oe, a1, a2⟩, ?_⟩
  show wpAny _ _ (setFlight _ _) _ _ _
  refine fl_land F4 fun h5 F5 u5 => ?_
  exact (hh e h5 (Sg.flown F5 (u4.trans u5) hfs)).bindK rfl q
end
end Mine

open PySem PySem.W PyProof.Rows
set_option maxRecDepth 100000
namespace Mine
open PySem PySem.W PySem.Calls PyProof.Rows
/-! the judges and the kinds -/
def jL : List (Int → Bool) := [j_isalnum, j_isalpha, j_isascii, j_isblank, j_iscntrl, j_isctrl, j_isdigit, j_isgraph, j_islower, j_ismeta, j_isprint, j_ispunct, j_isspace, j_isupper, j_isxdigit]
def inK (i : Nat) (x : Int) : Bool := decide (stch x ∈ kindL.getD i [])
def jF (i : Nat) : Int → Bool := jL.getD i fun _ => false
theorem below15 {P : Nat → Prop} (h : ∀ i ∈ List.range 15, P i) : ∀ i, i < 15 → P i := fun i hi => h i (List.mem_range.mpr hi)
theorem j_neg {x : Int} (hx : x < 0) : ∀ f ∈ jL, f x = false := by
  intro f hf
  simp only [jL, List.mem_cons, List.not_mem_nil, or_false] at hf
  rcases hf with rfl | rfl | rfl | rfl | rfl | rfl | rfl | rfl | rfl | rfl | rfl | rfl | rfl | rfl | rfl <;>
    (simp only [j_isalnum, j_isalpha, j_isascii, j_isblank, j_iscntrl, j_isctrl, j_isdigit, j_isgraph, j_islower, j_ismeta, j_isprint, j_ispunct, j_isspace, j_isupper, j_isxdigit, List.any_cons, List.any_nil, Bool.or_eq_false_iff, Bool.and_eq_false_iff, decide_eq_false_iff_not, beq_eq_false_iff_ne, ne_eq, and_true, true_and, Bool.or_false]; omega)
theorem j_big {x : Int} (hx : 128 ≤ x) : ∀ f ∈ jL, f x = f 128 := by
  have e : ∀ (k : Int), k ≤ 127 → (decide (k ≤ x) = decide (k ≤ 128)) := fun k hk => by rw [decide_eq_decide]; omega
  have e2 : ∀ (k : Int), k ≤ 127 → (decide (x ≤ k) = decide (128 ≤ k)) := fun k hk => by rw [decide_eq_decide]; omega
  have e3 : ∀ (k : Int), k ≤ 127 → (decide (x < k) = decide (128 < k)) := fun k hk => by rw [decide_eq_decide]; omega
  have e4 : ∀ (k : Int), k ≤ 127 → (decide (k < x) = decide (k < 128)) := fun k hk => by rw [decide_eq_decide]; omega
  have e5 : ∀ (k : Int), k ≤ 127 → ((x == k) = ((128 : Int) == k)) := fun k hk => by rw [Bool.eq_iff_iff, beq_iff_eq, beq_iff_eq]; omega
  have e6 : ∀ (k : Int), k ≤ 127 → ((k == x) = (k == (128 : Int))) := fun k hk => by rw [Bool.eq_iff_iff, beq_iff_eq, beq_iff_eq]; omega
  intro f hf
  simp only [jL, List.mem_cons, List.not_mem_nil, or_false] at hf
  rcases hf with rfl | rfl | rfl | rfl | rfl | rfl | rfl | rfl | rfl | rfl | rfl | rfl | rfl | rfl | rfl <;>
    simp (discharger := decide) only [j_isalnum, j_isalpha, j_isascii, j_isblank, j_iscntrl, j_isctrl, j_isdigit, j_isgraph, j_islower, j_ismeta, j_isprint, j_ispunct, j_isspace, j_isupper, j_isxdigit, List.any_cons, List.any_nil, e, e2, e3, e4, e5, e6]
theorem stch_big {x : Int} (hx : 128 ≤ x) : stch x = stch 128 := by
  unfold stch
  rw [if_neg (by omega), if_neg (by omega)]
  have : min x 128 = min 128 128 := by omega
  rw [this]
theorem mid_all : ∀ i ∈ List.range 15, ∀ m ∈ List.range 129, jF i (m : Int) = inK i (m : Int) := by decide +kernel
theorem neg_all : ∀ i ∈ List.range 15, decide (45 ∈ kindL.getD i []) = false := by decide +kernel
theorem jF_mem {i : Nat} (hi : i < 15) : jF i ∈ jL := by
  have hl : i < jL.length := hi
  unfold jF
  rw [List.getD_eq_getElem?_getD, List.getElem?_eq_getElem hl]
  exact List.getElem_mem hl
/-- what a judge says is what the row of stretches says -/
theorem judge_kind {i : Nat} (hi : i < 15) (x : Int) : jF i x = inK i x := by
  have hr := List.mem_range.mpr hi
  rcases Int.lt_or_le x 0 with hx | hx
  · rw [j_neg hx _ (jF_mem hi)]
    unfold inK stch
    rw [if_pos hx]
    exact (neg_all i hr).symm
  · rcases Int.lt_or_le x 128 with h2 | h2
    · have := mid_all i hr x.toNat (List.mem_range.mpr (by omega))
      rwa [Int.toNat_of_nonneg hx] at this
    · rw [j_big h2 _ (jF_mem hi)]
      unfold inK
      rw [stch_big h2]
      exact mid_all i hr 128 (by decide)
end Mine

open PySem PySem.W PyProof.Rows
namespace Mine
open PySem
/-! the reader and the reckoning -/
theorem drop_cons {cs : List Nat} {p : Nat} (h : p < cs.length) : cs.drop p = cs.getD p 0 :: cs.drop (p + 1) := by
  rw [List.getD_eq_getElem?_getD, List.getElem?_eq_getElem h]
  exact List.drop_eq_getElem_cons h
theorem read_law {cs : List Nat} {esc : Bool} {S : Nat → Bool} (hS : S 92 = !esc) (p : Nat) :
    readP S (cs.drop p) = (wordOf cs (stopOf cs ((loneOf (unitsOf cs esc p)).filter fun s => S (cs.getD s 0))) (unitsOf cs esc p), cs.drop (min (stopOf cs ((loneOf (unitsOf cs esc p)).filter fun s => S (cs.getD s 0)) + 1) cs.length)) := by
  induction p using unitsOf.induct cs esc with
  | case2 p h =>
    rw [unitsOf_nil h, List.drop_eq_nil_of_le (by omega), readP_nil]
    show _ = ([], cs.drop (min (cs.length + 1) cs.length))
    rw [Nat.min_eq_right (by omega), List.drop_length]
  | case1 p h ih =>
    have hge : ∀ x ∈ (loneOf (unitsOf cs esc (p + szAt cs esc p))).filter fun s => S (cs.getD s 0), p + szAt cs esc p ≤ x := fun x hx => by
      obtain ⟨u, hu, rfl⟩ := List.mem_map.mp (List.mem_filter.mp hx).1
      exact (unitsOf_pos _ u (List.mem_filter.mp hu).1).2.2
    rw [unitsOf_cons h, drop_cons h]
    generalize hus : unitsOf cs esc (p + szAt cs esc p) = us at ih hge
    by_cases hz : (decide (cs.getD p 0 = 92) && esc) = true
    · have hsz : szAt cs esc p = 2 := if_pos hz
      rw [Bool.and_eq_true, decide_eq_true_iff] at hz
      have hS' : S 92 = false := by rw [hS, hz.2]; rfl
      rw [hsz] at ih hge ⊢
      rw [hz.1, readP_esc hS', List.drop_drop]
      have el : loneOf ((p, 2) :: us) = loneOf us := rfl
      rw [el, show p + 1 + 1 = p + 2 from rfl, ih]
      generalize hst : stopOf cs ((loneOf us).filter fun s => S (cs.getD s 0)) = st at ih
      have hlt : p < st := by
        rw [← hst]
        unfold stopOf
        split
        · exact h
        · rename_i e l he
          have := hge e (by rw [he]; exact List.mem_cons_self ..)
          omega
      refine Prod.ext ?_ rfl
      show _ = wordOf cs st ((p, 2) :: us)
      unfold wordOf
      rw [List.filter_cons]
      by_cases h2 : p + 2 ≤ cs.length
      · rw [if_pos (by simp [hlt, h2]), List.map_cons]
        show ((cs.drop (p + 1)).take 1 ++ _) = _
        rw [drop_cons (show p + 1 < cs.length by omega)]
        rfl
      · rw [if_neg (by simp [h2]), List.drop_eq_nil_of_le (by omega)]
        rfl
    · have hsz : szAt cs esc p = 1 := if_neg hz
      rw [hsz] at ih hge ⊢
      have el : loneOf ((p, 1) :: us) = p :: loneOf us := rfl
      rw [el, List.filter_cons]
      cases hc : S (cs.getD p 0) with
      | true =>
        rw [readP_stop hc]
        simp only [if_true]
        show _ = (wordOf cs p ((p, 1) :: us), cs.drop (min (p + 1) cs.length))
        rw [Nat.min_eq_left (by omega)]
        refine Prod.ext ?_ rfl
        show _ = wordOf cs p ((p, 1) :: us)
        unfold wordOf
        rw [List.filter_eq_nil_iff.mpr]
        · rfl
        · intro u hu
          rcases List.mem_cons.mp hu with rfl | hu
          · simp
          · have := (unitsOf_pos (cs := cs) (esc := esc) _ u (by rw [hus]; exact hu)).2.2
            rw [hsz] at this
            have : ¬ u.1 < p := by omega
            simp [this]
      | false =>
        have h92 : cs.getD p 0 ≠ 92 := fun e => by
          rw [e, hS] at hc
          apply hz
          rw [e]
          cases esc with
          | true => rfl
          | false => cases hc
        rw [readP_plain hc h92, ih]
        simp only [Bool.false_eq_true, if_false]
        generalize hst : stopOf cs ((loneOf us).filter fun s => S (cs.getD s 0)) = st at ih
        have hlt : p < st := by
          rw [← hst]
          unfold stopOf
          split
          · exact h
          · rename_i e l he
            have := hge e (by rw [he]; exact List.mem_cons_self ..)
            omega
        refine Prod.ext ?_ rfl
        show _ = wordOf cs st ((p, 1) :: us)
        unfold wordOf
        rw [List.filter_cons, if_pos (by simp [hlt]; omega), List.map_cons]
        rfl
theorem heads_rec {cs : List Nat} {wh : List Nat} {p : Nat} (h : p < cs.length) : headsOf cs p wh = if decide (cs.getD p 0 ∈ wh) = true then headsOf cs (p + 1) wh else p :: headsOf cs (p + 1) wh := by
  unfold headsOf
  have e : cs.length - p = (cs.length - (p + 1)) + 1 := by omega
  rw [e, List.range_succ_eq_map, List.map_cons, List.map_map, List.filter_cons]
  have e2 : ((fun x => p + x) ∘ Nat.succ) = fun x => p + 1 + x := by funext x; simp only [Function.comp]; omega
  rw [e2, Nat.add_zero]
  cases decide (cs.getD p 0 ∈ wh) <;> rfl
theorem tok_heads (cs wh : List Nat) : ∀ (n p : Nat), cs.length - p = n → tokP wh (cs.drop p) = match headsOf cs p wh with
    | [] => ([], [])
    | h :: _ => if cs.getD h 0 = 34 then readP (fun c => decide (c = 34)) (cs.drop (h + 1)) else readP (fun c => decide (c ∈ wh)) (cs.drop h)
  | 0, p, e => by
    have hz : headsOf cs p wh = [] := by unfold headsOf; rw [e]; rfl
    rw [hz, List.drop_eq_nil_of_le (by omega)]
    rfl
  | n + 1, p, e => by
    have hp : p < cs.length := by omega
    rw [heads_rec hp, drop_cons hp, tokP]
    cases hc : decide (cs.getD p 0 ∈ wh) with
    | true =>
      simp only [if_true]
      exact tok_heads cs wh n (p + 1) (by omega)
    | false =>
      simp only [Bool.false_eq_true, if_false]
      rw [← drop_cons hp]
/-- the reader takes the word that the reckoning tells -/
theorem tok_law (cs wh : List Nat) (p : Nat) : tokP wh (cs.drop p) = ((lawWord cs p wh).1, cs.drop (lawWord cs p wh).2) := by
  rw [tok_heads cs wh _ p rfl]
  unfold lawWord
  cases headsOf cs p wh with
  | nil => dsimp only; rw [List.drop_length]
  | cons h t =>
    dsimp only
    unfold quotedAt
    by_cases hq : cs.getD h 0 = 34
    · rw [if_pos hq, decide_eq_true hq]
      simp only [Bool.true_or, if_true]
      exact read_law (esc := true) (S := fun c => decide (c = 34)) rfl (h + 1)
    · rw [if_neg hq, decide_eq_false hq]
      simp only [Bool.false_or, Bool.false_eq_true, if_false, Nat.add_zero]
      have := read_law (cs := cs) (esc := !decide (92 ∈ wh)) (S := fun c => decide (c ∈ wh)) (by simp) h
      exact this
end Mine

open PySem PySem.W PyProof.Rows
set_option maxRecDepth 100000
namespace Mine
open PySem PySem.W PySem.Calls PyProof.Rows
section
variable {prog : Program} {w : World} {A : Around} {K : Frag} {I : Heap → Prop} {env : Env}
theorem Ev.freeI {x : Str} {pos : Pos} {v : Value} {c : Addr} (hv : ∀ h, I h → h.IsCell c (some v)) (hc : env.cells.lookup x = some c)
    (hk : env.scope.kind = .function := by rfl) (hl : env.kindOf x = some .free := by rfl) (hd : (x == ("__debug__" : Str)) = false := by decide) (hn : (x == ("__classdict__" : Str)) = false := by decide) :
    Ev (model prog w) A I env (.Name x pos) (IsV v) := fun h hh => Run.mk fun s Q E hs q => by
  subst hs
  exact wpAny_Name (wpAny_loadName_free hk hl hc (hv _ hh) (q v s.heap s.toks ⟨rfl, hh⟩) hn) hd
theorem listT_ok {l : List Nat} {v : Value} (hh : A.handled = none) (hz : l.length ≤ 1000) : ∀ as, AllV [IsT l] as → Tr (model prog w) A I (call (.type "list") as []) fun v h' => Al I (fun o => ∃ vs, PL vs o ∧ Signs l vs) v h' := by
  refine all1 fun a ha h hI => Run.mk fun s Q E hs q => ?_
  obtain ⟨t, rfl⟩ := ha
  subst hs
  refine call_list_str hh _ t (fun h' tk acc c hk ho hi => ?_) (by show l.toArray.size ≤ _; rw [List.size_toArray, sizeLine_eq]; exact Nat.le_trans hz (Nat.le_of_ble_eq_true rfl))
  refine q _ h' tk ⟨s.heap, _, _, rfl, hI, hk, push_none _, ho, acc.toList, ⟨c, by simp⟩, AllV.of_get (by rw [Array.length_toList, hi.1]; simp) fun j u f hu hf => ?_⟩
  obtain ⟨c, t', hc, rfl⟩ := hi.2 j u (by simpa using hu)
  have hc' : l[j]? = some c := by simpa using hc
  rw [hc'] at hf
  cases hf
  exact ⟨t', rfl⟩
/-- a call of a lambda that stands in the heap -/
theorem Cn.of_lam {mu : Ledger} {X : Heap → Prop} {P : Value → Ledger → Ledger → Prop} {lam c' : Addr} {name qual : Str} {params : Arguments} {body : Expr} {scope : Scope} {cl : List (Str × Addr)} {pm ctv : Value} {args : List Value} {binds : List (Str × Value)} {n : Nat} (hX : ∀ h h', X h → Ext h h' → X h') (r : Room A (n + 1))
    (hlam : ∀ h, X h → h.get? lam = some (kla_obj name qual params body scope cl pm c' ctv) ∧ h.CodeRec (.ref c') qual)
    (hbind : bindArgs (kla_fn name qual params body scope cl pm (.ref c') ctv) ⟨args, []⟩ = pure binds) (hloc : ∀ y ∈ binds, scope.names.lookup y.1 = some .local) (hcell : ∀ x ∈ scope.names, x.2 ≠ .cell)
    (hs : (scope.isCoroutine, scope.isGenerator, scope.kind) = (false, false, .function))
    (h : ∀ (h₀ : Heap) (L : Addr), Wd K h₀ → X h₀ → TrS (model prog w) (A.deeper (envX qual scope L lam (.ref c') cl)) K h₀ L [] (fun y => binds.reverse.lookup y) (fun _ => none) mu (eval body (envX qual scope L lam (.ref c') cl)) fun v led' => ∃ mu' news, led' = news ++ mu' ∧ P v mu' news ∧ ads mu' = ads mu) :
    Cn prog w K A (.ref lam) args (Mpre K mu X) (MutR mu P) := fun h₁ W M => Run.mk fun s Q E hs' q => by
  subst hs'
  injection hs with h1 h2
  injection h2 with h2 h3
  have hx0 : X s.heap := hX _ _ M.st fun b o e => of_hideAll _ e
  obtain ⟨hl, hrec⟩ := hlam _ hx0
  refine wpAny_call (kla_callFunE r.room hl rfl h1 h2 rfl hrec ?_)
  rw [hbind]
  refine wpAny_pure (wpAny_newFunctionEnv hcell hloc (fun g hns hsb => ⟨W.nolimit.fresh _ hsb, ?_⟩) h3)
  show codeAny _ _ (.expr body (envX qual scope s.heap.objs.size lam (.ref c') cl)) _ _
  have hk : ∀ b o, s.heap.get? b = some o → g.get? b = some o := fun b o e => hsb.extBut b o (Nat.ne_of_lt (Heap.lt_size e)) (Heap.get?_push_of_some _ e)
  have W0 : Wd K (hideAll s.heap (ads mu)) := W.hides M.hi
  have S : St K (hideAll s.heap (ads mu)) s.heap.objs.size [] (fun y => binds.reverse.lookup y) (fun _ => none) mu g := by
    refine ⟨⟨hns, fun b o e => hk b o (of_hideAll _ e), Nat.le_of_eq (hideAll_size _ _)⟩, ⟨fun n c e => by simp at e, by simp, fun n c e => by simp at e⟩, W0, fun p hp => ?_, M.nd, List.nodup_nil⟩
    obtain ⟨o, e, hP⟩ := M.ld p hp
    exact ⟨⟨o, hk _ _ e, hP⟩, Nat.ne_of_lt (Heap.lt_size e), hideAll_none _ (List.mem_map.mpr ⟨p, hp, rfl⟩), fun x hx => nomatch hx⟩
  refine kla_codeExpr ((h _ _ W0 M.st g S).bindK rfl fun v h' k rr => ?_)
  obtain ⟨_, ⟨mu', news, rfl, hp, ha⟩, S'⟩ := rr
  exact q v h' k ⟨mu', news, hp, S'.mutRn (fun b o n e => hideAll_get _ e n) ha⟩
theorem W.alI {h₀ : Heap} {L : Addr} {cs : List (Str × Addr)} {m cm : Str → Option Value} {led : Ledger} {C : Value → Ledger → Prop} {t : Sem Value} {P : Obj → Prop} (x : Tr (model prog w) A (St K h₀ L cs m cm led) t fun v h' => Al (St K h₀ L cs m cm led) P v h') (k : ∀ l, C (.ref l) ((l, P) :: led)) : TrS (model prog w) A K h₀ L cs m cm led t C :=
  Tr.mono x fun v _ r => let ⟨l, e, S⟩ := r.st; ⟨_, e ▸ k l, S⟩
theorem W.weak {h₀ : Heap} {L : Addr} {cs : List (Str × Addr)} {m cm : Str → Option Value} {led : Ledger} {C : Value → Ledger → Prop} {t : Sem Value} (x : TrS (model prog w) A K h₀ L cs m cm led t fun v led' => ∃ led'', C v led'' ∧ ∀ h, St K h₀ L cs m cm led' h → St K h₀ L cs m cm led'' h) : TrS (model prog w) A K h₀ L cs m cm led t C :=
  Tr.mono x fun v _ ⟨_, ⟨l, c, k⟩, S⟩ => ⟨l, c, k _ S⟩
end
end Mine

open PySem PySem.W PyProof.Rows
set_option maxRecDepth 100000
namespace Mine
open PySem PySem.W PySem.Calls PyProof.Rows
theorem jad_fn (w : World) : ∀ a ∈ jads, fnIn (KK w) a = true := by
  intro a ha
  simp only [jads, List.mem_cons, List.not_mem_nil, or_false] at ha
  rcases ha with rfl | rfl | rfl | rfl | rfl | rfl | rfl | rfl | rfl | rfl | rfl | rfl | rfl | rfl | rfl <;> exact kk_fn (by k_is)
section
variable {prog : Program} {w : World} {A : Around}
theorem pc_judge {i : Nat} {v : Value} {n : Int} (hi : i < 15) (r : Room A 5) (hv : CodeIs n v) : ∃ a, jads[i]? = some a ∧ fnIn (KK w) a = true ∧ Pc prog w (KK w) A (.ref a) [v] (IsB (jF i n)) := by
  have key : ∀ i ∈ List.range 15, ∃ a, jads[i]? = some a ∧ Pc prog w (KK w) A (.ref a) [v] (IsB (jF i n)) := by
    intro i hi
    simp only [List.range, List.range.loop, List.mem_cons, List.not_mem_nil, or_false] at hi
    rcases hi with rfl | rfl | rfl | rfl | rfl | rfl | rfl | rfl | rfl | rfl | rfl | rfl | rfl | rfl | rfl
    · exact ⟨_, rfl, pc_isalnum (r.less (by decide)) hv⟩
    · exact ⟨_, rfl, pc_isalpha (r.less (by decide)) hv⟩
    · exact ⟨_, rfl, pc_isascii (r.less (by decide)) hv⟩
    · exact ⟨_, rfl, pc_isblank (r.less (by decide)) hv⟩
    · exact ⟨_, rfl, pc_iscntrl (r.less (by decide)) hv⟩
    · exact ⟨_, rfl, pc_isctrl (r.less (by decide)) hv⟩
    · exact ⟨_, rfl, pc_isdigit (r.less (by decide)) hv⟩
    · exact ⟨_, rfl, pc_isgraph (r.less (by decide)) hv⟩
    · exact ⟨_, rfl, pc_islower (r.less (by decide)) hv⟩
    · exact ⟨_, rfl, pc_ismeta (r.less (by decide)) hv⟩
    · exact ⟨_, rfl, pc_isprint (r.less (by decide)) hv⟩
    · exact ⟨_, rfl, pc_ispunct (r.less (by decide)) hv⟩
    · exact ⟨_, rfl, pc_isspace (r.less (by decide)) hv⟩
    · exact ⟨_, rfl, pc_isupper (r.less (by decide)) hv⟩
    · exact ⟨_, rfl, pc_isxdigit (r.less (by decide)) hv⟩
  obtain ⟨a, ha, p⟩ := key i (List.mem_range.mpr hi)
  exact ⟨a, ha, jad_fn w a (List.mem_of_getElem? ha), p⟩
end
end Mine

open PySem PySem.W PyProof.Rows
set_option maxRecDepth 100000
namespace Mine
open PySem PySem.W PySem.Calls PyProof.Rows
def valC : Value → Nat
  | .str x _ => x.cps.getD 0 0
  | _ => 0
theorem valC_of {c : Nat} {v : Value} (h : IsStr ⟨#[c]⟩ v) : valC v = c := by obtain ⟨t, rfl⟩ := h; rfl
theorem Signs.mapc {q : Nat → Bool} : ∀ {cs : List Nat} {us vs : List Value}, Signs cs us → Paired (fun u v => v = u) (us.filter fun v => q (valC v)) vs → Signs (cs.filter q) vs
  | [], [], vs, _, k => by cases k; trivial
  | [], _ :: _, _, e, _ => e.elim
  | _ :: _, [], _, e, _ => e.elim
  | n :: ns, u :: us, vs, e, k => by
    have hu : valC u = n := valC_of e.1
    rw [List.filter_cons, hu] at k
    rw [List.filter_cons]
    cases hp : q n with
    | true =>
      rw [hp] at k
      simp only [if_true] at k ⊢
      cases k with
      | cons h1 h2 => exact ⟨h1 ▸ e.1, Signs.mapc (cs := ns) e.2 h2⟩
    | false =>
      rw [hp] at k
      simp only [Bool.false_eq_true, if_false] at k ⊢
      exact Signs.mapc (cs := ns) e.2 k
theorem Signs.of_at {cs : List Nat} {us : List Value} (hl : us.length = cs.length) (h : ∀ j u, us[j]? = some u → SignAt ⟨cs.toArray⟩ j u) : Signs cs us :=
  AllV.of_get hl fun j u f hu hf => by
    obtain ⟨c, t, hc, rfl⟩ := h j u hu
    have hc' : cs[j]? = some c := by simpa using hc
    rw [hc'] at hf
    cases hf
    exact ⟨t, rfl⟩
theorem SignAt.is {cs : List Nat} {j : Nat} {u : Value} (h : SignAt ⟨cs.toArray⟩ j u) : ∃ c, cs[j]? = some c ∧ IsStr ⟨#[c]⟩ u := by
  obtain ⟨c, t, hc, rfl⟩ := h
  exact ⟨c, by simpa using hc, t, rfl⟩
/-- a state of the reading -/
structure RZ where
  rvs : List Value
  vl : Value
  vw : Value
  pvs : List Value
  ts : List Tp
  vk : Value
  m : Str → Option Value
  cm : Str → Option Value
structure ROk (cs : List Nat) (vt : Value) (lj rl x lt : Addr) (kind i : Nat) (z : RZ) : Prop where
  text : z.m (PySem.Str.ofString "text") = some vt
  lexer : z.m (PySem.Str.ofString "lexer") = some (.ref x)
  told : z.m (PySem.Str.ofString "told") = some (.ref lt)
  judges : z.cm (PySem.Str.ofString "judges") = some (.ref lj)
  ckind : z.cm (PySem.Str.ofString "kind") = some z.vk
  rest : z.cm (PySem.Str.ofString "rest") = some (.ref rl)
  hk : IsN (runD cs (d0 kind) i).kind z.vk
  rd : Rd (1 + cs.count 10) (cs.drop (runD cs (d0 kind) i).place) z.rvs z.vl
  w : handedIn z.vw = true
  pb : Paired (fun c v => IsT [c] v) (runD cs (d0 kind) i).waits z.pvs
  ts : Paired EntIs (entsD cs (d0 kind) i) z.ts
def RZ.led (rl x dxi st pb lt : Addr) (tl : Ledger) (z : RZ) : Ledger := lxMu rl x dxi st pb z.rvs z.vl z.vw z.pvs ++ ((lt, PL (z.ts.map fun q => Value.ref q.at_)) :: (tl ++ tls z.ts))
/-- the table of codes, grown -/
def Grown (o : Obj) : Prop := ∃ ps, o = tabObj ps
/-- what stands besides -/
def rTl (dx lam c2 st c1 L₀ : Addr) (ol : Obj) (m₀ : Str → Option Value) : Ledger :=
  [(dx, NsO (PySem.Str.ofString "read") (.ref lam)), (lam, fun o => o = ol), (c2, fun oc => ∃ fl, ol.data = .func fl ∧ fl.code = .ref c2 ∧ CodeP fl.qualname oc), (234, Grown), (st, fun o => ∃ fd, o = ⟨.type "function", some dx, .func fd, #[]⟩), (c1, fun _ => True), (L₀, NsM m₀)]
theorem rTl_x {K : Frag} {h₀ h : Heap} {L : Addr} {cs : List (Str × Addr)} {m cm : Str → Option Value} {mu led : Ledger} {st lam dx c2 c1 rl c : Addr} {ol : Obj} {L₀ : Addr} {m₀ : Str → Option Value}
    (S : St K h₀ L cs m cm (mu ++ led) h) (hs : ∀ p ∈ rTl dx lam c2 st c1 L₀ ol m₀, p ∈ led) (hc : cs.lookup (PySem.Str.ofString "rest") = some c) (hv : cm (PySem.Str.ofString "rest") = some (.ref rl)) :
    FnR st lam ol (hideAll h (ads mu)) ∧ (hideAll h (ads mu)).IsCell c (some (.ref rl)) ∧ ∃ fd, ol.data = .func fd ∧ (hideAll h (ads mu)).CodeRec fd.code fd.qualname := by
  obtain ⟨o1, g1, fd, rfl⟩ := S.shown (hs (st, fun o => ∃ fd, o = ⟨.type "function", some dx, .func fd, #[]⟩) (by simp [rTl]))
  obtain ⟨o2, g2, m2, hm2, e2⟩ := S.shown (hs (dx, NsO (PySem.Str.ofString "read") (.ref lam)) (by simp [rTl]))
  obtain ⟨o3, g3, rfl⟩ := S.shown (hs (lam, fun o => o = ol) (by simp [rTl]))
  obtain ⟨o4, g4, fl, hd, hcd, vs, t, hd4, hv4⟩ := S.shown (hs (c2, fun oc => ∃ fl, o3.data = .func fl ∧ fl.code = .ref c2 ∧ CodeP fl.qualname oc) (by simp [rTl]))
  exact ⟨⟨⟨dx, fd, #[], m2, g1, NsM.ns g2 hm2, e2⟩, g3, fl, hd⟩, hv ▸ S.shownC hc, fl, hd, c2, o4, vs, t, hcd, g4, hd4, hv4⟩
theorem told_refl : ∀ l : Ledger, Paired (fun p q => p.1 = q.1 ∧ ∀ o, q.2 o → p.2 o) l l
  | [] => .nil
  | _ :: l => .cons ⟨rfl, fun _ h => h⟩ (told_refl l)
theorem white_judge {cs : List Nat} {k : Nat} (hk : k < 15) : (cs.filter fun (c : Nat) => jF k (c : Int)) = whiteOf cs k := by
  unfold whiteOf
  congr 1
  funext c
  exact judge_kind hk c
theorem Ex.subW {prog : Program} {w : World} {A : Around} {K : Frag} {env : Env} {h₀ : Heap} {L : Addr} {cs : List (Str × Addr)} {m cm : Str → Option Value} {led led' : Ledger} {ss : List Stmt} {F : Flow → Heap → Prop}
    (p : ∀ h, St K h₀ L cs m cm led h → St K h₀ L cs m cm led' h) (x : Ex (model prog w) A (St K h₀ L cs m cm led') env ss F) : Ex (model prog w) A (St K h₀ L cs m cm led) env ss F := Tr.pre x p
/-- told otherwise, one by one -/
theorem St.told {K : Frag} {h₀ h : Heap} {L : Addr} {cs : List (Str × Addr)} {m cm : Str → Option Value} {led led' : Ledger} (S : St K h₀ L cs m cm led h) (k : Paired (fun p q => p.1 = q.1 ∧ ∀ o, q.2 o → p.2 o) led' led) : St K h₀ L cs m cm led' h := by
  have ea : ads led' = ads led := by
    clear S
    induction k with
    | nil => rfl
    | @cons a b l₁ l₂ h t ih => show a.1 :: ads l₁ = b.1 :: ads l₂; rw [h.1, ih]
  refine S.sub (fun p hp => ?_) (ea ▸ S.nd)
  clear ea S
  induction k with
  | nil => cases hp
  | cons h t ih =>
    rcases List.mem_cons.mp hp with rfl | hp
    · exact ⟨_, List.mem_cons_self .., h⟩
    · obtain ⟨q, hq, r⟩ := ih hp
      exact ⟨q, List.mem_cons_of_mem _ hq, r⟩
theorem boot_TypeError : bootBuiltins "TypeError" = some (.type "TypeError") := by decide +kernel
/-- a call of a def, with one argument that may make objects -/
theorem W.callP {prog : Program} {w : World} {A : Around} {K : Frag} {env : Env} {h₀ : Heap} {L : Addr} {cs : List (Str × Addr)} {m cm : Str → Option Value} {led : Ledger} {C : Value → Ledger → Prop} {fe e : Expr} {pos : Pos} {f : Addr} (hf : Ev (model prog w) A (St K h₀ L cs m cm led) env fe (IsR f)) (hk : keepIn K (.ref f) = true)
    (x : TrS (model prog w) A K h₀ L cs m cm led (eval e env) fun v led1 => ∃ U, Pc prog w K A (.ref f) [v] U ∧ ∀ u, U u → C u led1)
    (he : starEach [e] env = (false, eval e env) :: starEach [] env := by rfl) (hplain : (backTo pos (starEach [] env)).any (·.1) = false := by rfl)
    (hcall : eval (.Call fe [e] [] pos) env = (do callWith pos (← eval fe env) [] (backTo pos (starEach [e] env)) (backToKw pos (keywordEach [] env))) := by rfl) :
    TrS (model prog w) A K h₀ L cs m cm led (eval (.Call fe [e] [] pos) env) C := fun h hh => Run.mk fun s Q E hs q => by
  refine Call_ (he := hcall) ((hf h hh).bindK hs fun v h1 k1 r1 => ?_)
  obtain ⟨r1, S1⟩ := r1
  cases r1
  refine callWith_K (he := he) (hplain := hplain) S1.wdh.1 hk (args_cons (he := he) ((x h1 S1).bindK rfl fun u h2 k2 r2 => args_nil ?_))
  obtain ⟨led1, ⟨U, p, k⟩, S2⟩ := r2
  exact ⟨S2.wdh.1, (p h2 S2.wdh).bindK rfl fun a h3 k3 r3 => q a h3 k3 ⟨_, k a r3.1, St.okk.grow _ _ S2 r3.2⟩⟩
/-- a word was read -/
structure WdOk (cs : List Nat) (d : DS) (rvs : List Value) (vl : Value) (pvs : List Value) (v : Value) : Prop where
  v : IsT (wordAt cs d) v
  rd : Rd (1 + cs.count 10) (cs.drop (placeAt cs d)) rvs vl
  pb : Paired (fun c v => IsT [c] v) d.waits.tail pvs
theorem WdOk.line {cs : List Nat} {d : DS} {rvs : List Value} {vl : Value} {pvs : List Value} {v : Value} (h : WdOk cs d rvs vl pvs v) : IsN (1 + (cs.take (placeAt cs d)).count 10) vl ∧ rvs.length = cs.length - placeAt cs d := by
  obtain ⟨n, hn, e⟩ := h.rd.n
  have hc : (cs.take (placeAt cs d)).count 10 + (cs.drop (placeAt cs d)).count 10 = cs.count 10 := by rw [← List.count_append, List.take_append_drop]
  have : n = 1 + (cs.take (placeAt cs d)).count 10 := by omega
  refine ⟨this ▸ hn, ?_⟩
  have := AllV.length h.rd.s
  rw [this, List.length_map, List.length_drop]
theorem r_perm {rl x dxi st pb It lt t dx lam c2 c1 L₀ : Addr} {rvs : List Value} {vl vw : Value} {pvs vs rs : List Value} {P : Obj → Prop} {ol : Obj} {m₀ : Str → Option Value} {ts : List Tp} :
    ((t, TT vs) :: (lxMu rl x dxi st pb rvs vl vw pvs ++ ((It, P) :: (lt, PL rs) :: (rTl dx lam c2 st c1 L₀ ol m₀ ++ tls ts)))).Perm (lxMu rl x dxi st pb rvs vl vw pvs ++ ((It, P) :: (lt, PL rs) :: (rTl dx lam c2 st c1 L₀ ol m₀ ++ tls (ts ++ [⟨t, vs⟩])))) := by
  have e : tls (ts ++ [⟨t, vs⟩]) = tls ts ++ [(t, TT vs)] := List.map_append
  rw [e]
  exact (List.perm_append_singleton (t, TT vs) (lxMu rl x dxi st pb rvs vl vw pvs ++ ((It, P) :: (lt, PL rs) :: (rTl dx lam c2 st c1 L₀ ol m₀ ++ tls ts)))).symm
theorem mu_le {cs : List Nat} {d : DS} (h : OkD cs d) : muD cs (stepD cs d) ≤ muD cs d := by
  cases he : endD cs d with
  | false => exact Nat.le_of_lt (mu_step h he)
  | true =>
    unfold endD at he
    rw [Bool.and_eq_true, decide_eq_true_iff, decide_eq_true_iff] at he
    have hw : wordAt cs d = [] := by
      unfold wordAt
      rw [he.2]
      show (lawWord cs d.place _).1 = []
      unfold lawWord
      have : headsOf cs d.place (whiteOf cs d.kind) = [] := by unfold headsOf; rw [he.1, Nat.sub_self]; rfl
      rw [this]
    have hp : placeAt cs d = cs.length := by
      unfold placeAt
      rw [he.2]
      exact (lawWord_facts cs d.place _ h.place).2.2.2 he.1
    have : muD cs (stepD cs d) = 0 := by
      unfold muD stepD
      dsimp only
      rw [hw, hp, he.2, Nat.sub_self]
      rfl
    omega
theorem mu_run {cs : List Nat} {d : DS} (h : OkD cs d) : ∀ n, muD cs (runD cs d n) ≤ muD cs d
  | 0 => Nat.le_refl _
  | n + 1 => Nat.le_trans (mu_le (okD_run h n)) (mu_run h n)
theorem ents_len (cs : List Nat) (d : DS) (n : Nat) : (entsD cs d n).length = n := by unfold entsD; simp
theorem St.sublist {K : Frag} {h₀ h : Heap} {L : Addr} {cs : List (Str × Addr)} {m cm : Str → Option Value} {led led' : Ledger} (S : St K h₀ L cs m cm led h) (k : led'.Sublist led) : St K h₀ L cs m cm led' h :=
  S.sub (fun p hp => ⟨p, k.subset hp, rfl, fun _ e => e⟩) (S.nd.sublist (k.map _))
/-- what a reading hands back -/
theorem St.readR {K : Frag} {h₀ h : Heap} {L : Addr} {cs : List (Str × Addr)} {m cm : Str → Option Value} {l l2 rl x dxi st pb lt dx lam c2 c1 L₀ : Addr} {rvs : List Value} {vl vw : Value} {pvs us : List Value} {ol : Obj} {m₀ : Str → Option Value} {ts : List Tp} {Pl Plt : Obj → Prop}
    (S : St K h₀ L cs m cm ((l, Pl) :: (l2, PL us) :: (lxMu rl x dxi st pb rvs vl vw pvs ++ ((lt, Plt) :: (rTl dx lam c2 st c1 L₀ ol m₀ ++ tls ts)))) h) : St K h₀ L cs m cm (((l, Pl) :: tls ts) ++ [(234, Grown), (L₀, NsM m₀)]) h := by
  have p : ((l, Pl) :: (l2, PL us) :: (lxMu rl x dxi st pb rvs vl vw pvs ++ ((lt, Plt) :: (rTl dx lam c2 st c1 L₀ ol m₀ ++ tls ts)))).Perm (((l, Pl) :: tls ts) ++ ((l2, PL us) :: (lxMu rl x dxi st pb rvs vl vw pvs ++ ((lt, Plt) :: rTl dx lam c2 st c1 L₀ ol m₀)))) :=
    List.Perm.cons _ (List.perm_append_comm (l₁ := (l2, PL us) :: (lxMu rl x dxi st pb rvs vl vw pvs ++ ((lt, Plt) :: rTl dx lam c2 st c1 L₀ ol m₀))) (l₂ := tls ts))
  refine (S.perm p).sublist (List.Sublist.append_left ?_ _)
  exact .cons _ (.cons _ (.cons _ (.cons _ (.cons _ (.cons _ (.cons _ (.cons _ (.cons _ (.cons_cons _ (.cons _ (.cons _ (.cons_cons _ .slnil))))))))))))
theorem Ex.at_ {M : Model} {A : Around} {I : Heap → Prop} {env : Env} {ss : List Stmt} {F : Flow → Heap → Prop} {h : Heap} (x : Ex M A I env ss F) (i : I h) : Run M A (execs ss env) h F := x h i
structure PZ where
  pvs : List Value
  m : Str → Option Value
theorem Signs.ords : ∀ {cs : List Nat} {us vs : List Value}, Signs cs us → Paired (fun u v => IsN (valC u) v) us vs → AllN cs vs
  | [], [], vs, _, k => by cases k; trivial
  | [], _ :: _, _, e, _ => e.elim
  | _ :: _, [], _, e, _ => e.elim
  | n :: ns, u :: us, vs, e, k => by
    have hu : valC u = n := valC_of e.1
    cases k with
    | cons h1 h2 => exact ⟨hu ▸ h1, Signs.ords (cs := ns) e.2 h2⟩
end Mine

open PySem PySem.W PyProof.Rows
set_option maxRecDepth 100000
namespace Mine
open PySem PySem.W PySem.Calls PyProof.Rows
def rMu (L₀ : Addr) (m₀ : Str → Option Value) : Ledger := [(234, fun o => o = tabObj #[]), (L₀, NsM m₀)]
def ReadR (L₀ : Addr) (m₀ : Str → Option Value) (cs : List Nat) (kind n : Nat) (v : Value) (mu' news : Ledger) : Prop :=
  ∃ l ts vn, v = .ref l ∧ news = (l, PL (ts.map (fun q => Value.ref q.at_) ++ [vn])) :: tls ts ∧ Paired EntIs (entsD cs (d0 kind) n) ts ∧ IsN (runD cs (d0 kind) n).kind vn ∧ mu' = [(234, Grown), (L₀, NsM m₀)]
theorem perm12 {α : Type} (a b c d e f g h i j k l : α) : [a, b, c, d, e, f, g, h, i, j, k, l].Perm ([k, c, d, b] ++ [a, e, f, g, h, i, j, l]) :=
  (List.perm_middle (l₁ := [a, b, c, d, e, f, g, h, i, j])).trans (.cons _ ((List.perm_middle (l₁ := [a, b])).trans (.cons _ ((List.perm_middle (l₁ := [a, b])).trans (.cons _ (List.perm_middle (l₁ := [a])))))))
/-- what a reading leans on -/
def XR (st lam : Addr) (ol : Obj) (c rl : Addr) (h : Heap) : Prop := FnR st lam ol h ∧ h.IsCell c (some (.ref rl)) ∧ ∃ fd, ol.data = .func fd ∧ h.CodeRec fd.code fd.qualname
theorem XR.ext {st lam : Addr} {ol : Obj} {c rl : Addr} {h h' : Heap} (x : XR st lam ol c rl h) (k : Ext h h') : XR st lam ol c rl h' :=
  ⟨x.1.ext k, let ⟨o, ho, r⟩ := x.2.1; ⟨o, k _ _ ho, r⟩, let ⟨fd, hd, c, oc, vs, t, e, ho, r⟩ := x.2.2; ⟨fd, hd, c, oc, vs, t, e, k _ _ ho, r⟩⟩
section
variable {prog : Program} {w : World} {A : Around}
theorem cn_law_read {envl : Env} {L₀ lj : Addr} {m₀ : Str → Option Value} {cs : List Nat} {vt vk vn : Value} {kind n : Nat} (r : Room A 9) (hh : A.handled = none) (hfr : A.frames = some [envl]) (hfl : envl.frame = some L₀) (hek : envl.scope.kind = .function)
    (ht : IsT cs vt) (hk : IsN kind vk) (hkind : kind < 15) (hn : IsN n vn) (hn1 : n ≤ 2001) (hcs : ∀ c ∈ cs, c < 55296) (h1 : 1 ≤ cs.length) (hz : cs.length ≤ 30) :
    CnC prog w (KK w) A (.ref 237) [vt, .ref lj, vk, vn] (Mpre (KK w) (rMu L₀ m₀) fun h => h.IsList lj (jads.map Value.ref).toArray) (MutR (rMu L₀ m₀) (ReadR L₀ m₀ cs kind n)) := by
  refine CnC.of_bodyM (binds := [(PySem.Str.ofString "text", vt), (PySem.Str.ofString "judges", .ref lj), (PySem.Str.ofString "kind", vk), (PySem.Str.ofString "calls", vn)]) (fun h h' x k => let ⟨o, ho, r⟩ := x; ⟨o, k _ _ ho, r⟩) r (kk_look (by k_is)) (kk_code (by k_is)) rfl rfl (by decide) rfl fun h₀ L WD hX => ?_
  refine Ex.setCW (c := L + 3) rfl (W.alI (Tr.callT (Ev.builtin St.okk (g_list w) PyProof.Rows.boot_list (by decide)) (Es.cons (Ev.mono (V := IsV vt) (Ev.locS rfl) fun _ e => e ▸ ht) Es.nil) (listT_ok (l := cs) (v := vt) hh (by omega))) fun rl => ?_)
  refine Ex.openW (Q := PL) (B := Signs cs) 0 rfl fun rvs hrs => ?_
  refine Ex.permW (led' := (234, fun o => o = tabObj #[]) :: [(rl, PL rvs), (L₀, NsM m₀)]) (List.Perm.swap _ _ _) ?_
  refine Ex.setW (W.lam (cl := []) rfl trivial rfl fun st c1 pm1 ct1 => ?_)
  refine Ex.permW (List.perm_middle (l₁ := [_, _])) ?_
  refine Ex.fnAttrW (W.lam (cl := [(PySem.Str.ofString "rest", L + 3)]) rfl trivial rfl fun lam c2 pm2 ct2 => ⟨st, _, 3, Ev.locS rfl, rfl, fun dx => ?_⟩)
  refine Ex.setsW (names := [PySem.Str.ofString "lexer", PySem.Str.ofString "told"]) hh (Es.one (W.cls (Ev.global St.okk (g_netrclex w)) (Ev.locS rfl) ((r.deeper _).less (by decide)) fun x dxi pb vl vw hvl hvw => Es.one (W.list Es.nil (Nat.zero_le _) fun lt tv htv => Es.done ⟨rfl, ?_⟩)))
  refine Ex.permW (perm12 _ _ _ _ _ _ _ _ _ _ _ _) ?_
  generalize hol : kla_obj _ _ _ _ _ _ pm2 c2 ct2 = ol
  have B : Back_ prog w st lam rl (XR st lam ol (L + 3) rl) := by
    refine ⟨fun h h' x k => x.ext k, ⟨ol, fun h x => x.1⟩, ?_⟩
    intro A' rs rvs' u r' hh' hs hz' hu
    subst hol
    refine Cn.of_lam (binds := [(PySem.Str.ofString "size", u)]) (fun h h' x k => x.ext k) r' (fun h x => ⟨x.1.2.1, ?_⟩) rfl (by intro y hy; rw [List.mem_singleton.mp hy]; rfl) (by decide) rfl fun h₁ L' WD' hX' => ?_
    · obtain ⟨fd, hd, hc⟩ := x.2.2
      cases hd
      exact hc
    have hsl := hs.length
    rw [List.length_map] at hsl
    have cell : ∀ {h : Heap}, Ext h₁ h → h.IsCell (L + 3) (some (.ref rl)) := fun k => let ⟨o, ho, hd⟩ := hX'.2.1; ⟨o, k _ _ ho, hd⟩
    refine W.weak (W.join rfl (W.eff (cl := [(PySem.Str.ofString "rest", L + 3)]) rfl (W.alI (Tr.callT (Ev.builtin St.okk (g_range w) boot_range (by decide)) (Es.cons (V := IsN (min 1 rs.length)) (Ev.callB (Ev.builtin St.okk (g_min w) boot_min (by decide)) (Es.cons (Ev.mono (V := IsV u) (Ev.locS rfl) fun _ e => e ▸ hu) (Es.cons (Ev.callB (Ev.builtin St.okk (g_len w) boot_len (by decide)) (Es.cons (Ev.freeI (c := L + 3) (fun h S => cell S.base) rfl) Es.nil) ?_) Es.nil)) (min_okN St.okk hh')) Es.nil) range1_ok) fun rg => ?_)))
    · rw [← hsl]
      exact len_ok (fun h S => (S.list (i := 0) rfl).isList) (by show rvs'.length ≤ 1000000; omega)
    have hmin : min 1 rs.length ≤ 1 := Nat.min_le_left ..
    refine ⟨min 1 rs.length, fun i v => IsI ((0 : Int) + (i : Int)) v, [], fun i ys led' => led' = [(rg, Rg 0 ((min 1 rs.length : Nat) : Int)), (rl, PL (rvs'.drop i))] ∧ Signs (rs.take i) ys, by omega, ⟨rfl, trivial⟩, fun g S => ?_, fun _ _ _ _ p hp => (nomatch hp), ?_, ?_⟩
    · obtain ⟨o, ho, t, u, v, rfl⟩ := S.has (i := 0) rfl
      exact Src1.range (b := ((min 1 rs.length : Nat) : Int)) hh' ⟨t, u, v, ho⟩ (by omega) (by omega) (by omega)
    · rintro C D It i v0 ys led' oI hP hi ⟨rfl, hys⟩
      have hi0 : i = 0 := by omega
      subst hi0
      match rs, rvs', hs, hys, hi, hsl with
      | [], _, _, _, hi, _ => exact absurd hi (by simp)
      | c :: rs, [], hs, _, _, _ => exact hs.elim
      | c :: rs, v :: vs, hs, hys, hi, hsl =>
        refine W.lmeth1 (id := "list.pop") 4 (Ev.freeI (c := L + 3) (fun h S => cell S.base) rfl) rfl F.slot_list_pop rfl (W.ev Ev.int fun u0 hu0 => W.popI (v := v) (vs := vs) 4 hu0 rfl ?_ ⟨_, rfl, rfl, ?_⟩)
        · show vs.length + 1 ≤ 1000000
          simp only [List.length_cons] at hsl hz'
          omega
        · match ys, hys with
          | [], _ => exact ⟨hs.1, trivial⟩
    · rintro D ys led' ⟨rfl, hys⟩
      have e1 : rs.take (min 1 rs.length) = rs.take 1 := by rw [← List.take_eq_take_min]
      have e2 : Signs (rs.drop 1) (rvs'.drop (min 1 rs.length)) := by
        match rs, rvs', hs with
        | [], [], _ => trivial
        | c :: rs, v :: vs, hs =>
          have e : min 1 (c :: rs).length = 1 := by simp only [List.length_cons]; omega
          rw [e]
          exact hs.2
      rw [e1] at hys
      exact ⟨D, ys, rs.take 1, rfl, ⟨0, rfl⟩, hys, by rw [List.length_take]; omega, fun u hu => ⟨_, ⟨[(rl, PL (rvs'.drop (min 1 rs.length)))], [], rfl, ⟨rfl, hu, _, rfl, e2⟩, rfl⟩, fun h S => S.drop1.drop1⟩⟩
  refine Ex.subW (led' := lxMu rl x dxi st pb rvs vl vw [] ++ ((lt, PL []) :: (rTl dx lam c2 st c1 L₀ ol m₀ ++ tls []))) (fun h S => S.told (.cons ⟨rfl, fun _ h => h⟩ (.cons ⟨rfl, fun _ h => h⟩ (.cons ⟨rfl, fun _ h => h⟩ (.cons ⟨rfl, fun _ h => h⟩ (.cons ⟨rfl, fun _ h => PL.of htv h⟩ (.cons ⟨rfl, fun _ h => h⟩ (.cons ⟨rfl, fun _ h => h⟩ (.cons ⟨rfl, fun _ h => ?_⟩ (.cons ⟨rfl, fun _ h => ⟨_, h⟩⟩ (.cons ⟨rfl, fun _ h => ⟨_, h⟩⟩ (.cons ⟨rfl, fun _ _ => trivial⟩ (.cons ⟨rfl, fun _ h => h⟩ .nil))))))))))))) ?_
  · rw [← hol]
    exact ⟨_, rfl, rfl, h⟩
  clear hol
  refine Ex.forW RZ.m RZ.cm (RZ.led rl x dxi st pb lt (rTl dx lam c2 st c1 L₀ ol m₀)) (ROk cs vt lj rl x lt kind) n (fun i v => IsI ((0 : Int) + (i : Int)) v) (W.alI (Tr.callT (Ev.builtin St.okk (g_range w) boot_range (by decide)) (Es.cons (Ev.mono (V := IsV vn) (Ev.locS rfl) fun _ e => e ▸ hn) Es.nil) range1_ok) fun rg => ⟨fun g S => ?_, ⟨rvs, vl, vw, [], [], vk, _, _⟩, ⟨rfl, rfl, rfl, rfl, rfl, rfl, hk, ⟨hrs, ⟨1, hvl, rfl⟩, (show cs.length ≤ 1000 by omega)⟩, (by obtain ⟨t, rfl⟩ := hvw; rfl), .nil, .nil⟩, rfl, rfl, fun g S => S.drop1⟩) (fun i z u It oI hi hP H => ?_) (fun z H => ?_)
  · obtain ⟨o, ho, t, u, v, rfl⟩ := S.has (i := 0) rfl
    exact Src1.range hh ⟨t, u, v, ho⟩ (by omega) (by omega) (by omega)
  · have Od := okD_run (cs := cs) (d := d0 kind) ⟨Nat.zero_le _, hkind, fun _ h => nomatch h⟩ i
    have hik := H.hk
    have hird := H.rd
    have hipb := H.pb
    have hmu : muD cs (runD cs (d0 kind) i) ≤ 20 * cs.length := Nat.le_trans (mu_run (d := d0 kind) ⟨Nat.zero_le _, hkind, fun _ h => nomatch h⟩ i) (by show 20 * (cs.length - 0) + 0 ≤ _; omega)
    have htl : z.ts.length = i := by rw [← H.ts.length, ents_len]
    generalize hd : runD cs (d0 kind) i = d at Od hik hird hipb hmu
    -- the blanks
    refine Ex.attrW (W.join rfl (W.comp (n := cs.length) (P := SignAt ⟨cs.toArray⟩) (p := fun v => jF d.kind ((valC v : Nat) : Int)) (F := fun u v => v = u) (cl := [(PySem.Str.ofString "kind", L + 2), (PySem.Str.ofString "judges", L + 1)]) ?_ (by omega) rfl fun D us vs hlen hPu hF => ⟨D, vs, whiteOf cs d.kind, rfl, ⟨0, rfl⟩, ?_, ?_, fun wv hwv => ⟨x, dxi, lexF z.vl (.ref st) z.vw (.ref pb), 4, 3, 4, Ev.locS ((up_ne (by decide)).trans H.lexer), rfl, rfl, a_whitespace w, lexF_none _ _ _ _, by decide, ?_⟩⟩))
    · refine Tr.mono (Ev.locS ((up_ne (by decide)).trans H.text)) fun xv g r1 => ?_
      obtain ⟨rx, S⟩ := r1
      cases rx
      obtain ⟨t0, rfl⟩ := ht
      refine ⟨S, Src.str hh, fun C j u1 g1 hPj k1 => one_test ?_, fun C j u1 g1 _ _ _ => Ev.own⟩
      obtain ⟨c, hc, hcu⟩ := SignAt.is hPj
      rw [valC_of hcu]
      obtain ⟨a, ha, hfn, pc⟩ := pc_judge (prog := prog) (w := w) (n := (c : Int)) Od.kind ((r.deeper _).less (by decide)) (.inr ⟨c, rfl, hcu⟩)
      have e : (jF d.kind (c : Int) == true) = jF d.kind (c : Int) := by cases jF d.kind (c : Int) <;> rfl
      rw [← e]
      refine Tv.cmp (Ev.callDef (IC.okk (S.wdh.ext k1)) (Ev.item (k := (d.kind : Int)) (Ev.cellI (c := L + 1) (fun g' i => S.cellE (n := PySem.Str.ofString "judges") (v := .ref lj) (k1.trans i.1) rfl H.judges) rfl) (Ev.mono (V := IsV z.vk) (Ev.cellI (c := L + 2) (fun g' i => S.cellE (n := PySem.Str.ofString "kind") (v := z.vk) (k1.trans i.1) rfl H.ckind) rfl) fun _ e => e ▸ hik) (fun g' i => let ⟨o, ho, rr⟩ := hX; ⟨o, S.base.trans (k1.trans i.1) _ _ ho, rr⟩) (by omega) ?_ (u := .ref a) ?_) (Es.cons Ev.own Es.nil) hfn (all1 fun v e => e ▸ pc)) Ev.cbool c_is
      · have := Od.kind
        omega
      · rw [Int.toNat_natCast, List.getElem?_map, ha]
        rfl
    · have := Signs.mapc (q := fun (c : Nat) => jF d.kind (c : Int)) (Signs.of_at hlen hPu) hF
      rwa [white_judge Od.kind] at this
    · exact Nat.le_trans (List.length_filter_le ..) (by omega)
    refine Ex.subW (led' := (It, fun o => o = oI) :: RZ.led rl x dxi st pb lt (rTl dx lam c2 st c1 L₀ ol m₀) { z with vw := wv }) (fun g S => S.drop1.told (.cons ⟨rfl, fun _ h => h⟩ (.cons ⟨rfl, fun _ h => h⟩ (.cons ⟨rfl, fun _ h => h⟩ (.cons ⟨rfl, fun o h => h.mono (congrFun (lexF_white _ _ _ _ _)) (Nat.le_of_eq (if_neg fun e => nomatch e))⟩ (told_refl _)))))) ?_
    refine Ex.permW (List.perm_middle.symm) ?_
    have hXr : ∀ {csx : List (Str × Addr)} {mu : Ledger} {led' : Ledger} {mx : Str → Option Value} {h : Heap}, csx.lookup (PySem.Str.ofString "rest") = some (L + 3) → (∀ p ∈ rTl dx lam c2 st c1 L₀ ol m₀, p ∈ led') → St (KK w) h₀ L csx mx z.cm (mu ++ led') h → XR st lam ol (L + 3) rl (hideAll h (ads mu)) := fun hl hm S => rTl_x S hm hl H.rest
    have mt : ∀ {a b : Addr × (Obj → Prop)} {r : Ledger}, ∀ p ∈ rTl dx lam c2 st c1 L₀ ol m₀, p ∈ a :: b :: (rTl dx lam c2 st c1 L₀ ol m₀ ++ r) := fun p hp => List.mem_cons_of_mem _ (List.mem_cons_of_mem _ (List.mem_append_left _ hp))
    have hwl : handedIn wv = true := by obtain ⟨t, rfl⟩ := hwv; rfl
    -- the word
    refine Ex.setW (TrS.mono (C := fun v led' => ∃ rvs' vl' pvs', WdOk cs d rvs' vl' pvs' v ∧ led' = lxMu rl x dxi st pb rvs' vl' wv pvs' ++ ((It, fun o => o = oI) :: (lt, PL (z.ts.map fun q => Value.ref q.at_)) :: (rTl dx lam c2 st c1 L₀ ol m₀ ++ tls z.ts))) (W.callI0 1 2 (Ev.locS ((up_ne (by decide)).trans H.lexer)) rfl rfl (m_get_token w) rfl ?_) ?_)
    · rcases paired_inv hipb with ⟨ew, ez⟩ | ⟨c, l, p, ps, ew, ez, hp, hps⟩
      · rw [ez]
        refine Cn.mut (mu := lxMu rl x dxi st pb z.rvs z.vl wv []) (cn_tok_read B ((r.deeper _).less (by decide)) hh hird (by rw [List.length_drop]; omega) hwv).cn (fun h S => hXr rfl mt S) fun v mu' news hP => ?_
        obtain ⟨rfl, hv, rvs', vl', rfl, hR⟩ := hP
        rw [tok_law] at hv hR
        refine ⟨rvs', vl', [], ⟨?_, ?_, by rw [ew]; exact .nil⟩, rfl⟩
        · unfold wordAt; rw [ew]; exact hv
        · unfold placeAt; rw [ew]; exact hR
      · rw [ez]
        have hpl := hipb.length
        have hwW := waitW_len d.waits
        rw [ez, List.length_cons] at hpl
        unfold muD at hmu
        refine Cn.mut (mu := lxMu rl x dxi st pb z.rvs z.vl wv (p :: ps)) (cn_tok_wait B.ext ((r.deeper _).less (by decide)) ?_).cn (fun h S => hXr rfl mt S) fun v mu' news hP => ?_
        · omega
        obtain ⟨rfl, rfl, rfl⟩ := hP
        refine ⟨z.rvs, z.vl, ps, ⟨?_, ?_, by rw [ew]; exact hps⟩, rfl⟩
        · unfold wordAt; rw [ew]; exact hp
        · unfold placeAt; rw [ew]; exact hird
    rintro v led' ⟨rvs', vl', pvs', Wo, rfl⟩
    obtain ⟨hvl', hrl'⟩ := Wo.line
    -- told
    refine Ex.appendW 5 6 (Ev.locS ((up_ne (by decide)).trans ((up_ne (by decide)).trans H.told))) rfl ?_ (W.tuple (Es.one (W.ev (Ev.mono (V := IsV z.vk) (Ev.cellS (c := L + 2) H.ckind rfl) fun _ e => e ▸ hik) fun va hva => Es.one (W.ev (Ev.mono (V := IsV v) (Ev.locS up_self) fun _ e => e ▸ Wo.v) fun vb hvb =>
      Es.one (W.ev (Ev.mono (V := IsV vl') (Ev.attr 1 2 (Ev.locS ((up_ne (by decide)).trans ((up_ne (by decide)).trans H.lexer))) rfl rfl rfl (by obtain ⟨t, rfl⟩ := hvl'; rfl) (a_lineno w)) fun _ e => e ▸ hvl') fun vc hvc => Es.one (W.ev (Ev.callB (Ev.builtin St.okk (g_len w) boot_len (by decide)) (Es.cons (Ev.cellS (c := L + 3) H.rest rfl) Es.nil) (len_ok (vs := rvs') (fun g S => (S.list (i := 0) rfl).isList) ?_)) fun vd hvd => Es.done ⟨Nat.le_of_ble_eq_true rfl, fun t => ⟨rfl, ?_⟩⟩))))))
    · show (z.ts.map _).length ≤ 1000000
      rw [List.length_map]
      omega
    · show rvs'.length ≤ 1000000
      omega
    rw [hrl'] at hvd
    obtain ⟨ts2, ets2⟩ : ∃ ts2 : List Tp, ts2 = z.ts ++ [⟨t, [va, vb, vc, vd]⟩] := ⟨_, rfl⟩
    have hts2 : Paired EntIs (entsD cs (d0 kind) (i + 1)) ts2 := by
      rw [entsD_succ, hd, ets2]
      exact H.ts.snoc ⟨va, vb, vc, vd, rfl, hva, hvb, hvc, hvd⟩
    refine Ex.permW (led' := lxMu rl x dxi st pb rvs' vl' wv pvs' ++ ((It, fun o => o = oI) :: (lt, PL (ts2.map fun q => Value.ref q.at_)) :: (rTl dx lam c2 st c1 L₀ ol m₀ ++ tls ts2))) (by rw [ets2, List.map_append]; exact r_perm) ?_
    clear ets2
    -- turn
    have Lw : (wordAt cs d).length ≤ 30 := Nat.le_trans (word_len h1) hz
    have Cw : ∀ c ∈ wordAt cs d, c < 55296 := word_lt Od hcs
    have hword := Wo.v
    have hm1 : ∀ {y : Str} {b : Value}, z.m y = some b → y ≠ PySem.Str.ofString "word" → y ≠ PySem.Str.ofString "call" → up (up z.m (PySem.Str.ofString "call") u) (PySem.Str.ofString "word") v y = some b := fun h e1 e2 => (up_ne e1).trans ((up_ne e2).trans h)
    have fin : ∀ (m' : Str → Option Value) (pvs2 : List Value), m' (PySem.Str.ofString "text") = some vt → m' (PySem.Str.ofString "lexer") = some (.ref x) → m' (PySem.Str.ofString "told") = some (.ref lt) → Paired (fun c v => IsT [c] v) (d.waits.tail ++ moreOf (wordAt cs d)) pvs2 → ∀ vk', IsN ((d.kind + 1 + turnOf (wordAt cs d)) % 15) vk' →
        ROk cs vt lj rl x lt kind (i + 1) ⟨rvs', vl', wv, pvs2, ts2, vk', m', up z.cm (PySem.Str.ofString "kind") vk'⟩ := fun m' pvs2 h1 h2 h3 h4 vk' h5 =>
      ⟨h1, h2, h3, (up_ne (x := PySem.Str.ofString "kind") (v := vk') (by decide)).trans H.judges, (show up z.cm (PySem.Str.ofString "kind") vk' (PySem.Str.ofString "kind") = some vk' from up_self), (up_ne (x := PySem.Str.ofString "kind") (v := vk') (by decide)).trans H.rest, by show IsN (stepD cs (runD cs (d0 kind) i)).kind vk'; rw [hd]; exact h5, by show Rd _ (cs.drop (stepD cs (runD cs (d0 kind) i)).place) _ _; rw [hd]; exact Wo.rd, hwl, by show Paired _ (stepD cs (runD cs (d0 kind) i)).waits _; rw [hd]; exact h4, hts2⟩
    refine Ex.cons (J := fun g => ∃ m' pvs2 vturn, (m' (PySem.Str.ofString "text") = some vt ∧ m' (PySem.Str.ofString "lexer") = some (.ref x) ∧ m' (PySem.Str.ofString "told") = some (.ref lt) ∧ m' (PySem.Str.ofString "turn") = some vturn) ∧ IsN (turnOf (wordAt cs d)) vturn ∧ Paired (fun c v => IsT [c] v) (d.waits.tail ++ moreOf (wordAt cs d)) pvs2 ∧ St (KK w) h₀ L [(PySem.Str.ofString "rest", L + 3), (PySem.Str.ofString "kind", L + 2), (PySem.Str.ofString "judges", L + 1)] m' z.cm (lxMu rl x dxi st pb rvs' vl' wv pvs2 ++ ((It, fun o => o = oI) :: (lt, PL (ts2.map fun q => Value.ref q.at_)) :: (rTl dx lam c2 st c1 L₀ ol m₀ ++ tls ts2))) g) ?_ (fun g ⟨m', pvs2, vturn, ⟨e1, e2, e3, e4⟩, ht2, hp2, S⟩ => ?_)
    · by_cases hw1 : (wordAt cs d).length = 1
      · obtain ⟨c, hwc⟩ : ∃ c, wordAt cs d = [c] := by
          match wordAt cs d, hw1 with
          | [c], _ => exact ⟨c, rfl⟩
        have hcl : c < 55296 := Cw c (by rw [hwc]; exact List.mem_singleton.mpr rfl)
        rw [hwc] at hword ⊢
        have hturn : turnOf [c] = c % 32 := rfl
        have hmore : moreOf [c] = if (!decide (shown c = [c])) = true then shown c else [] := by unfold moreOf; simp
        rw [hturn]
        refine Tr.tryOk (Ex.setW (W.ev (V := IsN (c % 32)) (Ev.callB (Ev.builtin St.okk (g_ord w) boot_ord (by decide)) (Es.cons (Ev.callDef St.okk (Ev.global St.okk (g_ctrl w)) (Es.cons (Ev.locS up_self) Es.nil) (kk_fn (by k_is)) (all1 fun a e => e ▸ pc_ctrl_s ((r.deeper _).less (by decide)) hword)) Es.nil) ord_one) fun vturn hvt => ?_))
        refine Ex.setW (W.ev (Ev.ife (b := ((((d.kind % 2 : Nat) : Int)) != 0)) (Tv.plain (Ev.bin (Ev.mono (V := IsV z.vk) (Ev.cellS (c := L + 2) H.ckind rfl) fun _ e => e ▸ hik) Ev.nat (n_mod (by decide))) tr_int)
          (fun _ => Ev.callDef St.okk (Ev.global St.okk (g_unctrl w)) (Es.cons (Ev.callB (Ev.builtin St.okk (g_ord w) boot_ord (by decide)) (Es.cons (Ev.mono (V := IsV v) (Ev.locS ((up_ne (by decide)).trans up_self)) fun _ e => e ▸ hword) Es.nil) ord_one) Es.nil) (kk_fn (by k_is)) (all1 fun a ha => pc_unctrl ((r.deeper _).less (by decide)) hcl (.inl ha)))
          (fun _ => Ev.callDef St.okk (Ev.global St.okk (g_unctrl w)) (Es.cons (Ev.locS ((up_ne (by decide)).trans up_self)) Es.nil) (kk_fn (by k_is)) (all1 fun a e => e ▸ pc_unctrl ((r.deeper _).less (by decide)) hcl (.inr ⟨c, rfl, hword⟩)))) fun vsh hvsh => ?_)
        refine Ex.ifEnd (b := !decide (shown c = [c])) (Tv.cmp (Ev.mono (V := IsV vsh) (Ev.locS up_self) fun _ e => e ▸ hvsh) (Ev.mono (V := IsV v) (Ev.locS ((up_ne (by decide)).trans ((up_ne (by decide)).trans up_self))) fun _ e => e ▸ hword) t_ne) (fun e => ?_) (fun e => Ex.nil fun g S => ⟨_, pvs', vturn, ⟨(up_ne (by decide)).trans ((up_ne (by decide)).trans (hm1 H.text (by decide) (by decide))), (up_ne (by decide)).trans ((up_ne (by decide)).trans (hm1 H.lexer (by decide) (by decide))), (up_ne (by decide)).trans ((up_ne (by decide)).trans (hm1 H.told (by decide) (by decide))), (up_ne (by decide)).trans up_self⟩, hvt, ?_, S⟩)
        · obtain ⟨tsh, rfl⟩ := hvsh
          have hsl := shown_len c
          have htw : d.waits.tail.length ≤ 600 := by
            have := waitW_len d.waits
            unfold muD at hmu
            rw [List.length_tail]
            omega
          refine Ex.forW (σ := PZ) PZ.m (fun _ => z.cm) (fun y => lxMu rl x dxi st pb rvs' vl' wv y.pvs ++ ((It, fun o => o = oI) :: (lt, PL (ts2.map fun q => Value.ref q.at_)) :: (rTl dx lam c2 st c1 L₀ ol m₀ ++ tls ts2)))
            (fun j y => Paired (fun c v => IsT [c] v) (d.waits.tail ++ (shown c).take j) y.pvs ∧ y.m (PySem.Str.ofString "text") = some vt ∧ y.m (PySem.Str.ofString "lexer") = some (.ref x) ∧ y.m (PySem.Str.ofString "told") = some (.ref lt) ∧ y.m (PySem.Str.ofString "turn") = some vturn) (shown c).toArray.size (SignAt ⟨(shown c).toArray⟩)
            (W.ev (Ev.locS up_self) fun xv hxv => ⟨fun g S => ?_, ⟨pvs', up (up (up (up z.m (PySem.Str.ofString "call") u) (PySem.Str.ofString "word") v) (PySem.Str.ofString "turn") vturn) (PySem.Str.ofString "shown") (.str ⟨(shown c).toArray⟩ tsh)⟩, ?_, rfl, rfl, fun g S => S⟩)
            (fun j y u2 It2 oI2 hj hP2 ⟨hy, f1, f2, f3, f4⟩ => ?_) (fun y ⟨hy, f1, f2, f3, f4⟩ => Ex.nil fun g S => ⟨y.m, y.pvs, vturn, ⟨f1, f2, f3, f4⟩, hvt, ?_, S⟩)
          · cases hxv
            exact Src1.str hh
          · have hm4 : ∀ {y : Str} {b : Value}, z.m y = some b → y ≠ PySem.Str.ofString "word" → y ≠ PySem.Str.ofString "call" → y ≠ PySem.Str.ofString "turn" → y ≠ PySem.Str.ofString "shown" → up (up (up (up z.m (PySem.Str.ofString "call") u) (PySem.Str.ofString "word") v) (PySem.Str.ofString "turn") vturn) (PySem.Str.ofString "shown") (.str ⟨(shown c).toArray⟩ tsh) y = some b := fun h e1 e2 e3 e4 => (up_ne e4).trans ((up_ne e3).trans (hm1 h e1 e2))
            exact ⟨by rw [List.take_zero, List.append_nil]; exact Wo.pb, hm4 H.text (by decide) (by decide) (by decide) (by decide), hm4 H.lexer (by decide) (by decide) (by decide) (by decide), hm4 H.told (by decide) (by decide) (by decide) (by decide), (show up (up (up (up z.m (PySem.Str.ofString "call") u) (PySem.Str.ofString "word") v) (PySem.Str.ofString "turn") vturn) (PySem.Str.ofString "shown") (.str ⟨(shown c).toArray⟩ tsh) (PySem.Str.ofString "turn") = some vturn from (up_ne (by decide)).trans up_self)⟩
          · obtain ⟨c', hc', hu2⟩ := SignAt.is hP2
            have hyl : y.pvs.length ≤ 603 := by
              have := hy.length
              rw [List.length_append, List.length_take] at this
              omega
            refine Ex.exprW (W.callI1 (V := IsStr ⟨#[c']⟩) 2 3 (Ev.locS ((up_ne (by decide)).trans f2)) rfl rfl (m_push_token w) rfl (Ev.mono (V := IsV u2) (Ev.locS up_self) fun _ e => e ▸ hu2) fun a ha => W.perm List.perm_middle.symm (W.thenPerm (Cn.mut (mu := lxMu rl x dxi st pb rvs' vl' wv y.pvs) (X := fun _ => True) (cn_push (fun _ _ _ _ => trivial) ((r.deeper _).less (by decide)) (by omega)).cn (fun _ _ => trivial) fun v2 mu2 news hP3 => ?_)))
            obtain ⟨rfl, rfl, rfl⟩ := hP3
            refine ⟨_, List.perm_middle (l₁ := lxMu rl x dxi st pb rvs' vl' wv (y.pvs ++ [a])) (a := (It2, fun o => o = oI2)), rfl, Ex.nil fun g S => ⟨rfl, ⟨y.pvs ++ [a], up y.m (PySem.Str.ofString "sign") u2⟩, ⟨?_, (up_ne (x := PySem.Str.ofString "sign") (v := u2) (by decide)).trans f1, (up_ne (x := PySem.Str.ofString "sign") (v := u2) (by decide)).trans f2, (up_ne (x := PySem.Str.ofString "sign") (v := u2) (by decide)).trans f3, (up_ne (x := PySem.Str.ofString "sign") (v := u2) (by decide)).trans f4⟩, S⟩⟩
            rw [List.take_succ, hc']
            show Paired _ (d.waits.tail ++ ((shown c).take j ++ [c'])) (y.pvs ++ [a])
            rw [← List.append_assoc]
            exact hy.snoc ha
          · rw [hmore, if_pos e]
            rwa [List.take_of_length_le (by simp)] at hy
        · rw [hmore, if_neg (by rw [e]; decide), List.append_nil]
          exact Wo.pb
      · have hturn : turnOf (wordAt cs d) = 7 + (wordAt cs d).sum % 32 := by unfold turnOf; rw [if_neg (by simpa using hw1)]
        have hmore : moreOf (wordAt cs d) = [] := by unfold moreOf; rw [if_neg (by simp [hw1])]
        rw [hturn, hmore, List.append_nil]
        have hl₀ : (L₀, NsM m₀) ∈ (lxMu rl x dxi st pb rvs' vl' wv pvs' ++ ((It, fun o => o = oI) :: (lt, PL (ts2.map fun q => Value.ref q.at_)) :: (rTl dx lam c2 st c1 L₀ ol m₀ ++ tls ts2)) : Ledger) := List.mem_append_right _ (mt _ (by simp [rTl]))
        refine Tr.tryTE (outer := [envl]) (Around.frames_deeper hfr) rfl (fun b hb => ?_) (Tz.set (Tz.arg (Ev.builtin St.okk (g_ord w) boot_ord (by decide)) (Tz.callD St.okk (Ev.global St.okk (g_ctrl w)) (k_ctrl w) (Ev.locS up_self) fun a ha s1 Q1 E1 S1 q1 => ?_))) (fun e I hI => Ev.builtin hI (g_TypeError w) boot_TypeError (by decide)) (fun e => ?_)
        · rw [List.filterMap_cons] at hb
          rcases List.mem_cons.mp hb with rfl | hb
          · exact .inl rfl
          · rw [List.filterMap_cons, hfl] at hb
            rcases List.mem_cons.mp hb with rfl | hb
            · exact .inr ⟨m₀, hl₀⟩
            · exact nomatch hb
        · cases ha
          obtain ⟨⟨o0, ho0, hn0⟩, _⟩ := S1.ld _ hl₀
          have hfs : ∀ o : Obj, (fun vs => o.data ≠ .fields vs) = (fun vs => o.data ≠ .fields vs) := fun _ => rfl
          refine rz_ctrl (I := fun g => g = s1.heap) ((r.deeper _).less (by decide)) hh hword (by show (wordAt cs d).toArray.size ≠ 1; rw [List.size_toArray]; exact hw1) (by show (wordAt cs d).toArray.size ≤ 30; rw [List.size_toArray]; exact Lw) (Around.frames_deeper hfr) s1 Q1 E1 ⟨S1.wdh, ⟨fun b o z => of_hideAll _ z, ?_, rfl⟩⟩ fun e h' k ⟨g, eg, F, U⟩ => q1 e h' k ⟨g, eg ▸ S1, eg ▸ F, U⟩
          obtain ⟨oL, es, ep, hL, hd1, _⟩ := S1.fr.ns
          refine ⟨(by intro z; cases z), ⟨L, oL, rfl, hideAll_none _ (List.mem_cons_self ..), hL, fun vs z => by rw [hd1] at z; cases z⟩, ⟨by rw [hek]; decide, ⟨L₀, o0, hfl, hideAll_none _ ?_, ho0, hn0.nf⟩, trivial⟩⟩
          rw [List.filterMap_cons, List.filterMap_cons, hfl]
          exact .tail _ (.head _)
        · refine Ex.setW (W.bin (W.ev (Ev.nat (n := 7)) fun v1 hv1 => W.callP (Ev.global St.okk (g_ctrl w)) (k_ctrl w) (W.callB (Ev.builtin St.okk (g_sum w) boot_sum (by decide)) (Es.one (W.comp (n := (wordAt cs d).toArray.size) (P := SignAt ⟨(wordAt cs d).toArray⟩) (p := fun _ => true) (F := fun u v => IsN (valC u) v) (cl := []) ?_ (by rw [List.size_toArray]; omega) rfl fun D us2 vs2 hlen2 hP2 hF2 => Es.done ?_)))))
          · refine Tr.mono (Ev.locS up_self) fun xv g r1 => ?_
            obtain ⟨rx, S⟩ := r1
            cases rx
            obtain ⟨tw, rfl⟩ := hword
            refine ⟨S, Src.strH (e := e) rfl (S.hd 0 rfl), fun C j u1 g1 _ _ => no_tests, fun C j u1 g1 hPj _ k1 => ?_⟩
            obtain ⟨c, hc, hcu⟩ := SignAt.is hPj
            rw [valC_of hcu]
            exact Ev.callB (Ev.builtin (IC.okk (S.wdh.ext k1)) (g_ord w) boot_ord (by decide)) (Es.cons (Ev.mono Ev.own fun _ e => e ▸ hcu) Es.nil) ord_one
          · rw [filter_true] at hF2
            have hall : AllN (wordAt cs d) vs2 := Signs.ords (Signs.of_at (by rw [hlen2, List.size_toArray]) hP2) hF2
            refine W.q (sum_okNH (e := e) St.okk rfl (fun h S => S.hd 1 rfl) hall (fun h S => (S.list (i := 0) rfl).isList) (by omega) _ ⟨rfl, trivial⟩) fun a ha => ⟨IsN ((wordAt cs d).sum % 32), pc_ctrl_i ?_ ha, fun b hb => W.q (n_add _ _ hv1 hb) fun vturn hvt => Ex.dropW (Ex.dropW (Ex.nil fun g S => ⟨_, pvs', vturn, ⟨(up_ne (by decide)).trans (hm1 H.text (by decide) (by decide)), (up_ne (by decide)).trans (hm1 H.lexer (by decide) (by decide)), (up_ne (by decide)).trans (hm1 H.told (by decide) (by decide)), up_self⟩, hvt, Wo.pb, S⟩))⟩
            have := r.d
            have := r.u
            exact ⟨by show A.depth + 1 + 2 ≤ 900; omega, by show A.units + 3 + 10 * 2 ≤ 9000; omega⟩
    · refine Ex.at_ ?_ S
      refine Ex.setCW (c := L + 2) rfl (W.ev (V := IsN ((d.kind + 1 + turnOf (wordAt cs d)) % 15)) (Ev.bin (Ev.bin (Ev.bin (Ev.mono (V := IsV z.vk) (Ev.cellS (c := L + 2) H.ckind rfl) fun _ e => e ▸ hik) Ev.nat n_add) (Ev.mono (V := IsV vturn) (Ev.locS e4) fun _ e => e ▸ ht2) n_add) Ev.nat (n_mod (by decide))) fun vk' hvk' => Ex.nil fun g S => ⟨rfl, _, fin m' pvs2 e1 e2 e3 hp2 vk' hvk', S.perm List.perm_middle⟩)
  · have htl : z.ts.length = n := by rw [← H.ts.length, ents_len]
    refine Ex.retW (W.bin (W.ev (Ev.locS H.told) fun v1 hv1 => W.list (Es.cons (Ev.mono (V := IsV z.vk) (Ev.cellS (c := L + 2) H.ckind rfl) fun _ e => e ▸ H.hk) Es.nil) (Nat.le_of_ble_eq_true rfl) fun l2 us hus => ?_))
    cases hv1
    refine W.cat (vs := z.ts.map fun q => Value.ref q.at_) 5 0 rfl rfl (by show (z.ts.map _).length + us.length ≤ 1000000; rw [List.length_map, AllV.length hus]; show z.ts.length + 1 ≤ 1000000; omega) fun l h' S => ?_
    match us, hus with
    | [vn'], hvn => exact ⟨_, [(234, Grown), (L₀, NsM m₀)], (l, PL (z.ts.map (fun q => Value.ref q.at_) ++ [vn'])) :: tls z.ts, _, _, .inl rfl, ⟨l, z.ts, vn', rfl, rfl, H.ts, hvn.1, rfl⟩, rfl, S.readR⟩
end
end Mine

open PySem PySem.W PyProof.Rows
set_option maxRecDepth 100000
namespace Mine
open PySem PySem.W PySem.Calls PyProof.Rows
section
variable {prog : Program} {w : World} {A : Around} {K : Frag} {I : Heap → Prop} {env : Env}
theorem o_divL {x y : Int} (hy : y ≠ 0) (hy' : y.natAbs < 2 ^ 30) (a b : Value) (ha : IsI x a) (hb : IsI y b) : Tr (model prog w) A I (binaryOp .FloorDiv a b) fun c h' => IsI (x.fdiv y) c ∧ I h' := by
  obtain ⟨t, rfl⟩ := ha; obtain ⟨u, rfl⟩ := hb
  exact op_of fun s Q E q => floordiv_int (hp := .inl (PyProof.noPylong_small (by omega))) hy (q _ _ ⟨_, rfl⟩)
theorem n_divL {x y : Nat} (hy : 0 < y) (hy' : y < 2 ^ 30) (a b : Value) (ha : IsN x a) (hb : IsN y b) : Tr (model prog w) A I (binaryOp .FloorDiv a b) fun c h' => IsN (x / y) c ∧ I h' := by
  have := o_divL (prog := prog) (w := w) (A := A) (I := I) (x := x) (y := y) (by omega) (by omega) a b ha hb
  rwa [fdivN] at this
theorem n_mul {x y : Nat} (hy : y < 2 ^ 30) (a b : Value) (ha : IsN y a) (hb : IsN x b) : Tr (model prog w) A I (binaryOp .Mult a b) fun c h' => IsN (y * x) c ∧ I h' := by
  have hm : IntMulOk (y : Int) (x : Int) := IntMulOk.of_left (intBits_le_64 (by omega) (by omega))
  have := o_mul (prog := prog) (w := w) (A := A) (I := I) hm a b ha hb
  rwa [← Int.natCast_mul] at this
/-- an item of a list that has just been made -/
theorem Ev.itemNew {e ix : Expr} {pos : Pos} {k : Int} {l : List Nat} (hI : Okk K I) (x : Tr (model prog w) A I (eval e env) fun v h' => ∃ h1, I h1 ∧ Al (fun g => g = h1) KindsAt v h') (y : ∀ J : Heap → Prop, Okk K J → (∀ h, J h → I h) → Ev (model prog w) A J env ix (IsI k)) (hp0 : 0 ≤ k) (hp1 : k < 2 ^ 63) (hk : kindL[k.toNat]? = some l)
    (hsub : ∀ a t, subscripted ix false (.ref a) (.int k t) = operate [.ref a, .int k t] (getItem (.ref a) (.int k t)) := by intro _ _; with_unfolding_all rfl) :
    Ev (model prog w) A I env (.Subscript e ix pos) (IsT l) := fun h hh => Run.mk fun s Q E hs q => by
  refine Subscript_ ((x h hh).bindK hs fun a h1 k1 r1 => ?_)
  obtain ⟨h0, lA, o, rfl, i0, k0, _, ho, vs, ⟨n, rfl⟩, hvs⟩ := Al.of r1
  have okJ : Okk K fun g => I g ∧ g.get? lA = some { cls := .type "list", dict := none, data := .seq vs.toArray n, slots := #[] } := ⟨fun a b r e => ⟨hI.grow _ _ r.1 e, e _ _ r.2⟩, fun a r => hI.wd _ r.1⟩
  refine (y _ okJ (fun _ r => r.1) h1 ⟨hI.grow _ _ i0 k0, ho⟩).bindK rfl fun b h2 k2 r2 => ?_
  obtain ⟨⟨t, rfl⟩, i2, hl2⟩ := r2
  obtain ⟨u, hu, hu'⟩ := AllV.nth hvs hk
  have hL : h2.IsList lA vs.toArray := ⟨_, hl2, rfl, n, rfl⟩
  exact tail_any hL.typeIs slot_list_getitem.lookup (wpAny_getItem_list hL hp0 hp1 (by simpa using hu) (q _ _ k2 ⟨hu', i2⟩)) (hsub lA t)
end
section
variable {prog : Program} {w : World} {A : Around} {K : Frag} {env : Env} {h₀ : Heap} {L : Addr} {cs : List (Str × Addr)} {m cm : Str → Option Value} {led : Ledger} {C : Value → Ledger → Prop}
theorem W.sliceFrom {e lo : Expr} {p pos : Pos} {l : Addr} {vs : List Value} {n : Nat} (x : Ev (model prog w) A (St K h₀ L cs m cm led) env e (IsR l)) (hl : ∀ h, St K h₀ L cs m cm led h → h.IsList l vs.toArray) (hz : szs vs.length)
    (y : Ev (model prog w) A (St K h₀ L cs m cm led) env lo (IsN n)) (k : ∀ D, C (.ref D) ((D, PL (vs.drop n)) :: led)) (ht : ∀ o r, letTemporaryGo e o r = pure () := by intro _ _; rfl) :
    TrS (model prog w) A K h₀ L cs m cm led (eval (.Subscript e (.Slice (some lo) none none p) pos) env) C := fun h S => Run.mk fun s Q E hs q => by
  refine wpAny_Subscript_list_slice (ht := ht) ((x h S).bindK hs fun a h1 k1 r1 => evalPart_some_step ((y h1 r1.2).bindK rfl fun b h2 k2 r2 => evalPart_none_step ?_))
  obtain ⟨⟨t, rfl⟩, S2⟩ := r2
  have ra := r1.1
  cases ra
  refine ⟨l, vs.toArray, some (n : Int), none, rfl, hl _ S2, by rw [List.size_toArray]; exact hz.line, .int _ _, .none, ?_⟩
  have S3 := St.okk.grow _ _ S2 (push_ext h2 { cls := .type "slice", data := .fields #[.int (n : Int) t, .none, .none] })
  have S4 := S3.add (P := PL (vs.drop n)) (push_ext _ { cls := .type "list", data := .seq (slicePick vs.toArray (some (n : Int)) none none) }) (push_none _) (Heap.get?_push_size _ rfl) ⟨0, by rw [slicePick_from']⟩
  rw [Heap.size_push] at S4
  exact q _ _ _ ⟨_, k _, S4⟩
/-- a call of a def, with one argument that may make objects -/
theorem W.callW {fe e : Expr} {pos : Pos} {f : Addr} (hf : Ev (model prog w) A (St K h₀ L cs m cm led) env fe (IsR f)) (hk : keepIn K (.ref f) = true)
    (x : TrS (model prog w) A K h₀ L cs m cm led (eval e env) fun v led1 => TrS (model prog w) A K h₀ L cs m cm led1 (call (.ref f) [v] []) C)
    (he : starEach [e] env = (false, eval e env) :: starEach [] env := by rfl) (hplain : (backTo pos (starEach [] env)).any (·.1) = false := by rfl)
    (hcall : eval (.Call fe [e] [] pos) env = (do callWith pos (← eval fe env) [] (backTo pos (starEach [e] env)) (backToKw pos (keywordEach [] env))) := by rfl) :
    TrS (model prog w) A K h₀ L cs m cm led (eval (.Call fe [e] [] pos) env) C := fun h hh => Run.mk fun s Q E hs q => by
  refine Call_ (he := hcall) ((hf h hh).bindK hs fun v h1 k1 r1 => ?_)
  obtain ⟨r1, S1⟩ := r1
  cases r1
  refine callWith_K (he := he) (hplain := hplain) S1.wdh.1 hk (args_cons (he := he) ((x h1 S1).bindK rfl fun u h2 k2 r2 => args_nil ?_))
  obtain ⟨led1, kx, S2⟩ := r2
  exact ⟨S2.wdh.1, (kx h2 S2).bindK rfl fun a h3 k3 r3 => q a h3 k3 r3⟩
/-- a call of a def, with arguments that make no objects of the ledger -/
theorem W.callE {fe e : Expr} {rest : List Expr} {pos : Pos} {f : Addr} {Vs : List (Value → Prop)} (hf : Ev (model prog w) A (St K h₀ L cs m cm led) env fe (IsR f)) (hk : keepIn K (.ref f) = true)
    (x : Es (model prog w) A (St K h₀ L cs m cm led) env (e :: rest) Vs) (c : ∀ vs, AllV Vs vs → TrS (model prog w) A K h₀ L cs m cm led (call (.ref f) vs []) C)
    (he : starEach (e :: rest) env = (false, eval e env) :: starEach rest env := by rfl) (hplain : (backTo pos (starEach rest env)).any (·.1) = false := by rfl)
    (hcall : eval (.Call fe (e :: rest) [] pos) env = (do callWith pos (← eval fe env) [] (backTo pos (starEach (e :: rest) env)) (backToKw pos (keywordEach [] env))) := by rfl) :
    TrS (model prog w) A K h₀ L cs m cm led (eval (.Call fe (e :: rest) [] pos) env) C := fun h hh => Run.mk fun s Q E hs q => by
  refine Call_ (he := hcall) ((hf h hh).bindK hs fun v h1 k1 r1 => ?_)
  obtain ⟨r1, S1⟩ := r1
  cases r1
  refine callWith_K (he := he) (hplain := hplain) S1.wdh.1 hk ((x pos h1 S1).bindK rfl fun vs h2 k2 r2 => ⟨r2.2.wdh.1, (c vs r2.1 h2 r2.2).bindK rfl q⟩)
/-- the own frame is among what a call may touch -/
theorem St.mutF {h h' : Heap} {b : Addr} {P Q : Obj → Prop} {news : Ledger} (S : St K h₀ L cs m cm ((b, Q) :: led) h) (M : Mut [(b, Q), (L, NsM m)] [(b, P), (L, NsM m)] news h h') : St K h₀ L cs m cm (news ++ ((b, P) :: led)) h' := by
  have hL0 : h₀.get? L = none := Heap.get?_none_of_le S.fr.above
  have hb := S.ld (b, Q) (List.mem_cons_self ..)
  have keep : ∀ a o, a ≠ b → a ≠ L → h.get? a = some o → h'.get? a = some o := fun a o h1 h2 e => M.ext a o (by simp [ads, h1, h2]) e
  obtain ⟨oL', hL', hmL⟩ := M.mu' (L, NsM m) (by simp)
  obtain ⟨ob', hb', hP⟩ := M.mu' (b, P) (by simp)
  have S1 : St K h₀ L cs m cm ((b, P) :: led) h' := by
    refine ⟨⟨NsM.ns hL' hmL, fun a o e => keep a o (fun z => ?_) (fun z => ?_) (S.fr.keep a o e), S.fr.above⟩, ⟨fun n c e => ?_, S.cl.apart, S.cl.above⟩, S.wd, fun p hp => ?_, S.nd, S.nn⟩
    · rw [z, hb.2.2.1] at e; cases e
    · rw [z, hL0] at e; cases e
    · obtain ⟨o, ho, hd⟩ := S.cl.cell n c e
      exact ⟨o, keep c o (fun z => hb.2.2.2 _ (mem_of_lookup e) z.symm) (fun z => Nat.lt_irrefl _ (z ▸ S.cl.above n c (mem_of_lookup e))) ho, hd⟩
    · rcases List.mem_cons.mp hp with rfl | hp
      · exact ⟨⟨ob', hb', hP⟩, hb.2⟩
      · obtain ⟨⟨o, ho, hq⟩, r⟩ := S.ld p (List.mem_cons_of_mem _ hp)
        exact ⟨⟨o, keep _ o (fun z => S.notIn p hp z.symm) r.1 ho, hq⟩, r⟩
  have fresh : ∀ p ∈ news, p.1 ∉ ads ((b, P) :: led) ∧ p.1 ≠ L ∧ h₀.get? p.1 = none ∧ ∀ x ∈ cs, p.1 ≠ x.2 := fun p hp => by
    have hn := (M.new p hp).1
    refine ⟨fun z => ?_, fun e => ?_, ?_, fun x hx e => ?_⟩
    · rcases List.mem_cons.mp z with e | z
      · obtain ⟨⟨o, ho, _⟩, _⟩ := hb
        rw [show p.1 = b from e] at hn
        rw [hn] at ho; cases ho
      · obtain ⟨q, hq, e⟩ := List.mem_map.mp z
        obtain ⟨⟨o, ho, _⟩, _⟩ := S.ld q (List.mem_cons_of_mem _ hq)
        rw [e, hn] at ho; cases ho
    · obtain ⟨oL, _, _, hL, _⟩ := S.fr.ns
      rw [e, hL] at hn; cases hn
    · cases q : h₀.get? p.1 with
      | none => rfl
      | some o' => have := S.fr.keep _ _ q; rw [hn] at this; cases this
    · obtain ⟨oc, hc, _⟩ := S.cl.cell x.1 x.2 (lookup_of_mem_nodup S.nn hx)
      rw [e, hc] at hn; cases hn
  refine ⟨S1.fr, S1.cl, S1.wd, fun p hp => ?_, ?_, S1.nn⟩
  · rcases List.mem_append.mp hp with hp | hp
    · exact ⟨(M.new p hp).2, (fresh p hp).2⟩
    · exact S1.ld p hp
  · rw [ads_append]
    refine List.nodup_append.mpr ⟨M.nd, S1.nd, fun a ha b' hb' e => ?_⟩
    obtain ⟨p, hp, rfl⟩ := List.mem_map.mp ha
    exact (fresh p hp).1 (e ▸ hb')
theorem St.mpreF {h : Heap} {b : Addr} {Q : Obj → Prop} {X : Heap → Prop} (S : St K h₀ L cs m cm ((b, Q) :: led) h) (hx : X (hideAll h [b, L])) : Mpre K [(b, Q), (L, NsM m)] X h := by
  have hb := S.ld (b, Q) (List.mem_cons_self ..)
  obtain ⟨oL, hoL, hmL⟩ := Ns.obj S.fr.ns
  refine ⟨fun p hp => ?_, fun a ha => ?_, ?_, hx⟩
  · rcases List.mem_cons.mp hp with rfl | hp
    · exact hb.1
    · rw [List.mem_singleton.mp hp]; exact ⟨oL, hoL, hmL⟩
  · rcases List.mem_cons.mp ha with rfl | ha
    · exact S.hi _ (List.mem_cons_self ..)
    · rw [List.mem_singleton.mp ha]; exact S.wd.hi (Heap.get?_none_of_le S.fr.above)
  · show [b, L].Nodup
    simpa using hb.2.1
end
section
variable {A : Around} {h : Heap}
theorem bool_same (a b : Bool) (v u : Value) (ha : IsB a v) (hb : IsB b u) (s : Shared) (_ : s.heap = h) : SeqAt.EqAt A.in1 s v u (decide (a = b)) := by
  cases ha; cases hb
  have := SeqAt.EqAt.bool_bool (A := A.in1) (s := s) a b
  have e : (a == b) = decide (a = b) := by cases a <;> cases b <;> rfl
  rwa [e] at this
theorem tuple_same {l b : Addr} {vs us : List Value} {s : Shared} (hu : A.units + 2 < cLine) (hne : l ≠ b) (hl : s.heap.IsTuple l vs.toArray) (hb : s.heap.IsTuple b us.toArray) (hv : vs.length = us.length) (hE : ∀ j (h1 : j < vs.length) (h2 : j < us.length), SeqAt.EqAt A.in1.in1 s vs[j] us[j] true) :
    SeqAt.EqAt A.in1 s (.ref l) (.ref b) true := by
  refine SeqAt.EqAt.of_refs hne ?_
  have := SeqAt.RcAt.tuples (A := A.in1) (e := fun _ => true) hl hb (by show A.units + 1 < cLine; omega) (fun j h1 h2 => by simpa using hE j (by simpa using h1) (by simpa using h2))
  have e : ((List.range (min vs.toArray.size us.toArray.size)).all (fun _ => true) && vs.toArray.size == us.toArray.size) = true := by simp [hv]
  rwa [e] at this
end
end Mine

open PySem PySem.W PyProof.Rows
set_option maxRecDepth 100000
namespace Mine
open PySem PySem.W PySem.Calls PyProof.Rows
/-! what the law builds -/
def drawnOf (ns : List Int) : List Nat := ns.map fun x => (x.fmod 1000000000).toNat
def ownL : List Nat := [0, 4, 0, 0, 32, 12, 40, 4, 8, 36, 44, 16]
def plainOf (ns : List Int) : List Nat := (drawnOf ns ++ ownL.drop (drawnOf ns).length).map codeOf
def totalOf (ns : List Int) : Nat := 198 + (drawnOf ns).sum
def hidOf (ns : List Int) : Nat := totalOf ns / 15 % 15
def codesOf (ns : List Int) : List Nat := (plainOf ns).map fun (c : Nat) => if jF (hidOf ns) (c : Int) = true then mark c else c
theorem fmod_nat (x : Int) : (((x.fmod 1000000000).toNat : Nat) : Int) = x.fmod 1000000000 := by
  have := Int.fmod_nonneg_of_pos x (show (0 : Int) < 1000000000 by decide)
  omega
theorem drawn_lt {ns : List Int} : ∀ n ∈ drawnOf ns, n < 1000000000 := fun n hn => by
  obtain ⟨x, _, rfl⟩ := List.mem_map.mp hn
  have := Int.fmod_lt_of_pos x (show (0 : Int) < 1000000000 by decide)
  have := Int.fmod_nonneg_of_pos x (show (0 : Int) < 1000000000 by decide)
  omega
theorem codeOf_lt (n : Nat) : codeOf n < 55040 := by
  unfold codeOf
  split
  · omega
  · have h : ∀ k, k < 16 → tempt.getD k 0 < 55040 := by decide
    exact h _ (Nat.mod_lt _ (by decide))
theorem plain_lt {ns : List Int} : ∀ c ∈ plainOf ns, c < 55040 := fun c hc => by
  obtain ⟨n, _, rfl⟩ := List.mem_map.mp hc
  exact codeOf_lt n
theorem mark_lt {c : Nat} (h : c < 55040) : mark c < 55168 := by unfold mark; omega
theorem codes_lt {ns : List Int} : ∀ c ∈ codesOf ns, c < 55296 := fun c hc => by
  obtain ⟨d, hd, rfl⟩ := List.mem_map.mp hc
  have h1 := plain_lt d hd
  have h2 := mark_lt h1
  split <;> omega
theorem plain_len {ns : List Int} (h : ns.length ≤ 12) : (plainOf ns).length = 12 := by
  unfold plainOf
  rw [List.length_map, List.length_append, List.length_drop]
  have : (drawnOf ns).length = ns.length := by unfold drawnOf; rw [List.length_map]
  have : ownL.length = 12 := rfl
  omega
theorem codes_len {ns : List Int} (h : ns.length ≤ 12) : (codesOf ns).length = 12 := by unfold codesOf; rw [List.length_map]; exact plain_len h
theorem comp_src {α : Type} {f V : α → Value → Prop} {val : Value → α} (hval : ∀ a u, f a u → val u = a) : ∀ {as : List α} {us vs : List Value}, AllV (as.map f) us → Paired (fun u v => V (val u) v) us vs → AllV (as.map V) vs
  | [], [], vs, _, k => by cases k; trivial
  | [], _ :: _, _, e, _ => e.elim
  | _ :: _, [], _, e, _ => e.elim
  | a :: as, u :: us, vs, e, k => by
    cases k with
    | cons h1 h2 => exact ⟨hval a u e.1 ▸ h1, comp_src hval (as := as) e.2 h2⟩
theorem same_list {us src : List Value} (hl : us.length = src.length) (h : ∀ (j : Nat) (u : Value), us[j]? = some u → src[j]? = some u) : us = src :=
  List.ext_getElem hl fun j h1 h2 => by
    have := h j _ (List.getElem?_eq_getElem h1)
    rw [List.getElem?_eq_getElem h2] at this
    exact (Option.some.inj this).symm
/-- a comprehension over a list -/
theorem comp_list {α : Type} {f V : α → Value → Prop} {val : Value → α} (hval : ∀ a u, f a u → val u = a) {as : List α} {src us vs : List Value} (hs : AllV (as.map f) src) (hl : us.length = src.length) (hP : ∀ (j : Nat) (u : Value), us[j]? = some u → src[j]? = some u) (hF : Paired (fun u v => V (val u) v) (us.filter fun _ => true) vs) : AllV (as.map V) vs := by
  rw [filter_true] at hF
  rw [same_list hl hP] at hF
  exact comp_src hval hs hF
/-- a comprehension over the places of a list -/
theorem comp_range {cs : List Nat} {V : Nat → Value → Prop} {us vs : List Value} (hl : us.length = cs.length) (hP : ∀ j u, us[j]? = some u → j < cs.length ∧ IsI ((0 : Int) + (j : Int)) u) (hF : Paired (fun u v => V (cs.getD (valN u) 0) v) (us.filter fun _ => true) vs) : AllV (cs.map V) vs := by
  rw [filter_true] at hF
  have hus : AllN (List.range cs.length) us := AllV.of_get (by rw [hl, List.length_range]) fun j u a x y => by
    have hj := hP j u x
    rw [List.getElem?_range hj.1] at y
    cases y
    rw [Int.zero_add] at hj
    exact hj.2
  have := comp_src (f := fun n => IsN n) (val := valN) (V := fun k => V (cs.getD k 0)) (fun a u h => IsI.valN h) hus hF
  have e : (List.range cs.length).map (fun k => V (cs.getD k 0)) = cs.map V := by
    refine List.ext_getElem (by simp) fun j h1 h2 => ?_
    rw [List.getElem_map, List.getElem_map, List.getElem_range, List.getD_eq_getElem?_getD, List.getElem?_eq_getElem (by simpa using h2)]
    rfl
  rwa [e] at this
def valI : Value → Int
  | .int n _ => n
  | _ => 0
theorem valI_of {x : Int} {v : Value} (h : IsI x v) : valI v = x := by obtain ⟨t, rfl⟩ := h; rfl
end Mine

open PySem PySem.W PyProof.Rows
set_option maxRecDepth 100000
namespace Mine
open PySem PySem.W PySem.Calls PyProof.Rows
section
variable {prog : Program} {w : World} {K : Frag} {A : Around} {env : Env} {h₀ : Heap} {L : Addr} {cs : List (Str × Addr)} {m cm : Str → Option Value} {led : Ledger} {C : Value → Ledger → Prop}
theorem Src.weak {xv : Value} {h₁ : Heap} {n : Nat} {P P' : Nat → Value → Prop} (x : Src prog w A xv h₁ n P) (k : ∀ i v, P i v → P' i v) : Src prog w A xv h₁ n P' := fun s Q E hs q =>
  x s Q E hs fun It T h' tk fp wr a W b c d => q It T h' tk fp wr a (W.weaken k) b c d
def Over {α : Type} (zs : List α) (f : α → Value → Prop) (i : Nat) (v : Value) : Prop := ∃ a, zs[i]? = some a ∧ f a v
theorem Src.over {α : Type} {zs : List α} {f : α → Value → Prop} {h₁ : Heap} {l : Addr} {vs : List Value} (hh : A.handled = none) (hl : h₁.IsList l vs.toArray) (hv : AllV (zs.map f) vs) : Src prog w A (.ref l) h₁ zs.length (Over zs f) := by
  have e : vs.length = zs.length := by rw [AllV.length hv, List.length_map]
  rw [← e]
  exact (Src.list hh hl).weak fun i v h => AllV.at hv h
theorem Src.overR {h₁ : Heap} {r : Addr} {n : Nat} (hh : A.handled = none) (hr : RangeAt h₁ r 0 (n : Int)) (hn : n < 2 ^ 40) : Src prog w A (.ref r) h₁ (List.range n).length (Over (List.range n) fun j => IsN j) := by
  have := (Src.bound (Src.range (prog := prog) (w := w) (a := 0) (b := (n : Int)) (n := n) hh hr (by omega) (by omega) (by omega) (by omega) (by omega))).weak (P' := Over (List.range n) fun j => IsN j) fun i v ⟨h1, h2⟩ => ⟨i, List.getElem?_range h1, by rw [Int.zero_add] at h2; exact h2⟩
  rwa [List.length_range]
theorem over_elt {α : Type} {elt : Expr} {x : Str} {scope : Scope} {cl : List (Str × Addr)} {zs : List α} {f V : α → Value → Prop} {h₁ : Heap} (hinj : ∀ a b u, f a u → f b u → a = b)
    (helt : ∀ C a u g, a ∈ zs → f a u → Ext h₁ g → Ev (model prog w) A (IC g C x u) (compEnvC scope cl C env) elt (V a)) : Elt prog w A env h₁ scope cl x [] elt (Over zs f) (fun _ => true) fun u v => ∀ a, f a u → V a v where
  tests := fun C i u g _ _ => no_tests
  elt := fun C i u g h _ k => let ⟨a, ha, hu⟩ := h; Ev.mono (helt C a u g (List.mem_of_getElem? ha) hu k) fun v hv b hb => hinj a b u hu hb ▸ hv
theorem over_out {α : Type} {zs : List α} {f V : α → Value → Prop} {us vs : List Value} (hl : us.length = zs.length) (hP : ∀ j u, us[j]? = some u → Over zs f j u) (hF : Paired (fun u v => ∀ a, f a u → V a v) (us.filter fun _ => true) vs) : AllV (zs.map V) vs := by
  rw [filter_true] at hF
  refine AllV.comp (f := f) (AllV.of_get hl fun j u a x e => ?_) hF fun a u v h k => k a h
  obtain ⟨b, hb, hu⟩ := hP j u x
  rw [e] at hb; cases hb
  exact hu
/-- a list built over a row of values -/
theorem W.over {α : Type} {elt iter : Expr} {x : Str} {px : Pos} {scope : Scope} {cl : List (Str × Addr)} {pos : Pos} (zs : List α) (f V : α → Value → Prop) (hinj : ∀ a b u, f a u → f b u → a = b) (hz : zs.length ≤ 1000000)
    (hsrc : Tr (model prog w) A (St K h₀ L cs m cm led) (eval iter env) fun xv h₁ => St K h₀ L cs m cm led h₁ ∧ Src prog w A xv h₁ zs.length (Over zs f))
    (hclos : closureFor scope env = pure cl) (helt : ∀ h₁, St K h₀ L cs m cm led h₁ → ∀ C a u g, a ∈ zs → f a u → Ext h₁ g → Ev (model prog w) A (IC g C x u) (compEnvC scope cl C env) elt (V a))
    (k : ∀ D vs, AllV (zs.map V) vs → C (.ref D) ((D, PL vs) :: led))
    (hs : ∀ x, foldedSetIterable iter env x = pure x := by intro _; rfl) (hcell : ∀ y ∈ scope.names, y.2 ≠ .cell := by decide) (hkind : scope.kind = .function := by rfl)
    (hnames : ∀ y ∈ scope.names, y.2 = .local → scope.names.lookup y.1 = some .local := by decide) (hx : scope.names.lookup x = some .local := by rfl) :
    TrS (model prog w) A K h₀ L cs m cm led (eval (.ListComp elt [⟨.Name x px, iter, [], 0⟩] scope pos) env) C :=
  W.comp (Tr.mono hsrc fun xv h₁ r => ⟨r.1, r.2, over_elt hinj (helt h₁ r.1)⟩) hz hclos (fun D us vs h1 h2 h3 => k D vs (over_out h1 h2 h3)) hs hcell hkind hnames hx
theorem Ex.setOver {α : Type} {elt iter : Expr} {x y : Str} {px py : Pos} {scope : Scope} {cl : List (Str × Addr)} {pos spos : Pos} {rest : List Stmt} {G : Flow → Heap → Prop} (zs : List α) (f V : α → Value → Prop) (hinj : ∀ a b u, f a u → f b u → a = b) (hz : zs.length ≤ 1000000)
    (hsrc : Tr (model prog w) A (St K h₀ L cs m cm led) (eval iter env) fun xv h₁ => St K h₀ L cs m cm led h₁ ∧ Src prog w A xv h₁ zs.length (Over zs f))
    (hclos : closureFor scope env = pure cl) (helt : ∀ h₁, St K h₀ L cs m cm led h₁ → ∀ C a u g, a ∈ zs → f a u → Ext h₁ g → Ev (model prog w) A (IC g C x u) (compEnvC scope cl C env) elt (V a))
    (hr : ∀ D vs, AllV (zs.map V) vs → Ex (model prog w) A (St K h₀ L cs (up m y (.ref D)) cm ((D, PL vs) :: led)) env rest G)
    (hsw : swapsWith (.ListComp elt [⟨.Name x px, iter, [], 0⟩] scope pos) (some (.Name y py)) spos.line env = pure true := by rfl)
    (hs : ∀ x, foldedSetIterable iter env x = pure x := by intro _; rfl) (hcell : ∀ y ∈ scope.names, y.2 ≠ .cell := by decide) (hkind : scope.kind = .function := by rfl)
    (hnames : ∀ y ∈ scope.names, y.2 = .local → scope.names.lookup y.1 = some .local := by decide) (hx : scope.names.lookup x = some .local := by rfl)
    (hL : env.locals = L := by rfl) (hk : env.scope.kind = .function := by rfl) (hy : env.kindOf y = some .local := by rfl) :
    Ex (model prog w) A (St K h₀ L cs m cm led) env (.Assign [.Name y py] (.ListComp elt [⟨.Name x px, iter, [], 0⟩] scope pos) spos :: rest) G :=
  Ex.setComp (Tr.mono hsrc fun xv h₁ r => ⟨r.1, r.2, over_elt hinj (helt h₁ r.1)⟩) hz hclos (fun D us vs h1 h2 h3 => hr D vs (over_out h1 h2 h3)) hsw hs hcell hkind hnames hx hL hk hy
theorem src_places {iter : Expr} {rg : Addr} {n : Nat} (i : Nat) (hh : A.handled = none) (he : Ev (model prog w) A (St K h₀ L cs m cm led) env iter (IsR rg)) (hi : led[i]? = some (rg, Rg 0 (n : Int))) (hn : n < 2 ^ 40) :
    Tr (model prog w) A (St K h₀ L cs m cm led) (eval iter env) fun xv h₁ => St K h₀ L cs m cm led h₁ ∧ Src prog w A xv h₁ (List.range n).length (Over (List.range n) fun j => IsN j) :=
  Tr.mono he fun xv g r => by
    obtain ⟨rx, S⟩ := r
    cases rx
    obtain ⟨o, ho, t, u, v, rfl⟩ := S.has hi
    exact ⟨S, Src.overR hh ⟨t, u, v, ho⟩ hn⟩
theorem src_list {α : Type} {zs : List α} {f : α → Value → Prop} {iter : Expr} {l : Addr} {vs : List Value} (i : Nat) (hh : A.handled = none) (he : Ev (model prog w) A (St K h₀ L cs m cm led) env iter (IsR l)) (hi : led[i]? = some (l, PL vs)) (hv : AllV (zs.map f) vs) :
    Tr (model prog w) A (St K h₀ L cs m cm led) (eval iter env) fun xv h₁ => St K h₀ L cs m cm led h₁ ∧ Src prog w A xv h₁ zs.length (Over zs f) :=
  Tr.mono he fun xv g r => by
    obtain ⟨rx, S⟩ := r
    cases rx
    exact ⟨S, Src.over hh (S.list hi).isList hv⟩
end
theorem judge_of {prog : Program} {w : World} {i : Nat} (hi : i < 15) : ∃ a, (jads.map Value.ref)[i]? = some (.ref a) ∧ fnIn (KK w) a = true ∧ ∀ {A : Around}, Room A 5 → ∀ {v : Value} {n : Int}, CodeIs n v → Pc prog w (KK w) A (.ref a) [v] (IsB (jF i n)) := by
  have hl : i < jads.length := hi
  refine ⟨jads[i], by rw [List.getElem?_map, List.getElem?_eq_getElem hl]; rfl, jad_fn w _ (List.getElem_mem hl), fun r v n hv => ?_⟩
  obtain ⟨a, ha, _, pc⟩ := pc_judge (prog := prog) (w := w) (n := n) hi r hv
  rw [List.getElem?_eq_getElem hl] at ha
  exact Option.some.inj ha ▸ pc
theorem inj_I (a b : Int) (u : Value) (ha : IsI a u) (hb : IsI b u) : a = b := by obtain ⟨t, rfl⟩ := ha; obtain ⟨t', e⟩ := hb; cases e; rfl
theorem inj_N (a b : Nat) (u : Value) (ha : IsN a u) (hb : IsN b u) : a = b := Int.ofNat.inj (inj_I _ _ u ha hb)
theorem inj_B (a b : Bool) (u : Value) (ha : IsB a u) (hb : IsB b u) : a = b := by cases ha; cases hb; rfl
theorem inj_S (a b : Nat) (u : Value) (ha : IsStr ⟨#[a]⟩ u) (hb : IsStr ⟨#[b]⟩ u) : a = b := by obtain ⟨t, rfl⟩ := ha; obtain ⟨t', e⟩ := hb; cases e; rfl
theorem range_getD {β : Type} (cs : List Nat) (V : Nat → β) : (List.range cs.length).map (fun k => V (cs.getD k 0)) = cs.map V := by
  refine List.ext_getElem (by simp) fun j h1 h2 => ?_
  rw [List.getElem_map, List.getElem_map, List.getElem_range, List.getD_eq_getElem?_getD, List.getElem?_eq_getElem (by simpa using h2)]
  rfl
end Mine

open PySem PySem.W PyProof.Rows
set_option maxRecDepth 100000
namespace Mine
open PySem PySem.W PySem.Calls PyProof.Rows
section
variable {prog : Program} {w : World} {K : Frag} {A : Around} {env : Env} {h₀ : Heap} {L : Addr} {cs : List (Str × Addr)} {m cm : Str → Option Value} {led : Ledger} {C : Value → Ledger → Prop}
theorem W.cmp {op : CmpOp} {l r : Expr} {pos : Pos} (x : TrS (model prog w) A K h₀ L cs m cm led (eval l env) fun a led1 => TrS (model prog w) A K h₀ L cs m cm led1 (eval r env) fun b led2 => TrS (model prog w) A K h₀ L cs m cm led2 (compareOp op a b) C)
    (hm : behindInMarks op r = false := by with_unfolding_all rfl) : TrS (model prog w) A K h₀ L cs m cm led (eval (.Compare l [op] [r] pos) env) C := fun h hI => Run.mk fun s Q E hs q =>
  wpAny_Compare1 (hm := hm) ((x h hI).bindK hs fun a h1 k1 r1 => by
    obtain ⟨led1, y, S1⟩ := r1
    exact (y h1 S1).bindK rfl fun b h2 k2 r2 => by
      obtain ⟨led2, o, S2⟩ := r2
      exact (o h2 S2).bindK rfl q)
theorem Cn.mutF {f : Value} {args : List Value} {b : Addr} {Q : Obj → Prop} {X : Heap → Prop} {P : Value → Ledger → Ledger → Prop} (c : Cn prog w K A f args (Mpre K [(b, Q), (L, NsM m)] X) (MutR [(b, Q), (L, NsM m)] P)) (hx : ∀ h, St K h₀ L cs m cm ((b, Q) :: led) h → X (hideAll h [b, L]))
    (k : ∀ v mu' news, P v mu' news → ∃ Pb, mu' = [(b, Pb), (L, NsM m)] ∧ C v (news ++ ((b, Pb) :: led))) : TrS (model prog w) A K h₀ L cs m cm ((b, Q) :: led) (call f args []) C := fun h S =>
  (c h S.wdh (S.mpreF (hx h S))).mono fun v h' ⟨mu', news, p, M⟩ => by
    obtain ⟨Pb, rfl, hC⟩ := k v mu' news p
    exact ⟨_, hC, S.mutF M⟩
end
theorem Room.units2 {A : Around} {n : Nat} (r : Room A n) : A.units + 2 < cLine := by have := r.u; show A.units + 2 < 9900; omega
section
variable {A : Around} {s : Shared}
theorem t_same {l : List Nat} {v u : Value} (ha : IsT l v) (hb : IsT l u) : SeqAt.EqAt A s v u true := by
  obtain ⟨t, rfl⟩ := ha; obtain ⟨t', rfl⟩ := hb
  have := SeqAt.EqAt.str_str (A := A) (s := s) ⟨l.toArray⟩ t ⟨l.toArray⟩ t'
  rwa [beq_self_eq_true] at this
theorem n_same {n : Nat} {v u : Value} (ha : IsN n v) (hb : IsN n u) : SeqAt.EqAt A s v u true := by
  obtain ⟨t, rfl⟩ := ha; obtain ⟨t', rfl⟩ := hb
  have := (MeetsSeq.EqGives.int (n : Int) (n : Int) t t').at A s
  rwa [beq_self_eq_true] at this
theorem ent_same {e : Ent} {q p : Tp} (hu : A.units + 2 < cLine) (ha : EntIs e q) (hb : EntIs e p) (hne : q.at_ ≠ p.at_) (h1 : s.heap.IsTuple q.at_ q.vs.toArray) (h2 : s.heap.IsTuple p.at_ p.vs.toArray) : SeqAt.EqAt A.in1 s (.ref q.at_) (.ref p.at_) true := by
  obtain ⟨a, b, c, d, e1, x1, x2, x3, x4⟩ := ha
  obtain ⟨a', b', c', d', e2, y1, y2, y3, y4⟩ := hb
  refine tuple_same hu hne h1 h2 (by rw [e1, e2]; rfl) fun j j1 j2 => ?_
  have hj : j < 4 := by rw [e1] at j1; exact j1
  have g1 : q.vs[j] = [a, b, c, d][j] := by simp only [e1]
  have g2 : p.vs[j] = [a', b', c', d'][j] := by simp only [e2]
  rw [g1, g2]
  match j, hj with
  | 0, _ => exact n_same x1 y1
  | 1, _ => exact t_same x2 y2
  | 2, _ => exact n_same x3 y3
  | 3, _ => exact n_same x4 y4
theorem told_same {k : Nat} {vn vm : Value} (hu : A.units + 2 < cLine) (hn : IsN k vn) (hm : IsN k vm) : ∀ {es : List Ent} {ts us : List Tp}, Paired EntIs es ts → Paired EntIs es us → (∀ q ∈ ts, s.heap.IsTuple q.at_ q.vs.toArray) → (∀ q ∈ us, s.heap.IsTuple q.at_ q.vs.toArray) → (∀ q ∈ ts, ∀ p ∈ us, q.at_ ≠ p.at_) →
    Paired (fun v u => SeqAt.EqAt A.in1 s v u true) (ts.map (fun q => Value.ref q.at_) ++ [vn]) (us.map (fun q => Value.ref q.at_) ++ [vm])
  | _, _, _, .nil, .nil, _, _, _ => .cons (n_same hn hm) .nil
  | _, _, _, .cons a x, .cons b y, h1, h2, h3 => .cons (ent_same hu a b (h3 _ (List.mem_cons_self ..) _ (List.mem_cons_self ..)) (h1 _ (List.mem_cons_self ..)) (h2 _ (List.mem_cons_self ..)))
      (told_same hu hn hm x y (fun q hq => h1 q (List.mem_cons_of_mem _ hq)) (fun q hq => h2 q (List.mem_cons_of_mem _ hq)) fun q hq p hp => h3 q (List.mem_cons_of_mem _ hq) p (List.mem_cons_of_mem _ hp))
theorem Paired.at_ {α β : Type} {F : α → β → Prop} : ∀ {l : List α} {m : List β}, Paired F l m → ∀ j (h1 : j < l.length) (h2 : j < m.length), F l[j] m[j]
  | _, _, .cons a _, 0, _, _ => a
  | _, _, .cons _ x, j + 1, h1, h2 => Paired.at_ x j (Nat.lt_of_succ_lt_succ h1) (Nat.lt_of_succ_lt_succ h2)
end
section
variable {prog : Program} {w : World} {A : Around}
theorem told_eq {h : Heap} {l b : Addr} {es : List Ent} {ts us : List Tp} {k : Nat} {vn vm : Value} (hu : A.units + 2 < cLine) (hl : h.IsList l (ts.map (fun q => Value.ref q.at_) ++ [vn]).toArray) (hb : h.IsList b (us.map (fun q => Value.ref q.at_) ++ [vm]).toArray)
    (hn : IsN k vn) (hm : IsN k vm) (p1 : Paired EntIs es ts) (p2 : Paired EntIs es us) (h1 : ∀ q ∈ ts, h.IsTuple q.at_ q.vs.toArray) (h2 : ∀ q ∈ us, h.IsTuple q.at_ q.vs.toArray) (h3 : ∀ q ∈ ts, ∀ p ∈ us, q.at_ ≠ p.at_) :
    Run (model prog w) A (compareOp .Eq (.ref l) (.ref b)) h fun d h' => IsB true d ∧ h' = h := by
  have hlen : ts.length = us.length := by rw [← p1.length, ← p2.length]
  refine eq_lists (I := fun g => g = h) (by omega) (fun _ e => e ▸ hl) (fun _ e => e ▸ hb) (fun _ e => ⟨fun _ => true, fun s hs j a1 a2 => ?_, ?_⟩) h rfl
  · have e' : s.heap = h := hs.trans e
    exact Paired.at_ (told_same hu hn hm p1 p2 (e' ▸ h1) (e' ▸ h2) h3) j a1 a2
  · simp [hlen]
theorem told_end {K : Frag} {h₀ h : Heap} {L : Addr} {cs : List (Str × Addr)} {m cm : Str → Option Value} {l l2 lj b : Addr} {Pj P : Obj → Prop} {es : List Ent} {ts us : List Tp} {k : Nat} {vn vm : Value} (hu : A.units + 2 < cLine)
    (S : St K h₀ L cs m cm (((l2, PL (ts.map (fun q => Value.ref q.at_) ++ [vn])) :: tls ts) ++ ((b, P) :: (lj, Pj) :: (l, PL (us.map (fun q => Value.ref q.at_) ++ [vm])) :: tls us)) h)
    (hn : IsN k vn) (hm : IsN k vm) (p1 : Paired EntIs es ts) (p2 : Paired EntIs es us) : Run (model prog w) A (compareOp .Eq (.ref l2) (.ref l)) h fun d h' => IsB true d ∧ h' = h := by
  have nd := S.nd
  rw [ads_append] at nd
  have lst : ∀ {l : Addr} {vs : List Value}, (∃ o, h.get? l = some o ∧ PL vs o) → h.IsList l vs.toArray := fun ⟨o, ho, n, e⟩ => by subst e; exact ⟨_, ho, rfl, n, rfl⟩
  have tup : ∀ {q : Tp}, (∃ o, h.get? q.at_ = some o ∧ TT q.vs o) → h.IsTuple q.at_ q.vs.toArray := fun ⟨o, ho, e⟩ => TT.at ho e
  have m1 : ∀ {q : Tp} {ts : List Tp}, q ∈ ts → (q.at_, TT q.vs) ∈ tls ts := fun hq => List.mem_map.mpr ⟨_, hq, rfl⟩
  have r2 : ∀ {x : Addr × (Obj → Prop)}, x ∈ tls us → x ∈ ((b, P) :: (lj, Pj) :: (l, PL (us.map (fun q => Value.ref q.at_) ++ [vm])) :: tls us) := fun h => List.mem_cons_of_mem _ (List.mem_cons_of_mem _ (List.mem_cons_of_mem _ h))
  refine told_eq hu (lst (S.ld _ (List.mem_append_left _ (List.mem_cons_self ..))).1) (lst (S.ld _ (List.mem_append_right _ (List.mem_cons_of_mem _ (List.mem_cons_of_mem _ (List.mem_cons_self ..))))).1) hn hm p1 p2
    (fun q hq => tup (S.ld _ (List.mem_append_left _ (List.mem_cons_of_mem _ (m1 hq)))).1) (fun q hq => tup (S.ld _ (List.mem_append_right _ (r2 (m1 hq)))).1) fun q hq p hp => ?_
  exact (List.nodup_append.mp nd).2.2 _ (List.mem_map.mpr ⟨_, List.mem_cons_of_mem _ (m1 hq), rfl⟩) _ (List.mem_map.mpr ⟨_, r2 (m1 hp), rfl⟩)
end
end Mine

open PySem PySem.W PyProof.Rows
set_option maxRecDepth 100000
namespace Mine
open PySem PySem.W PySem.Calls PyProof.Rows
theorem k_code (w : World) : keepIn (KK w) (.ref 215) = true := by kernel_rfl
theorem k_stretches (w : World) : keepIn (KK w) (.ref 208) = true := by kernel_rfl
theorem k_due (w : World) : keepIn (KK w) (.ref 232) = true := by kernel_rfl
theorem k_read (w : World) : keepIn (KK w) (.ref 237) = true := by kernel_rfl
def tabMu : Ledger := [(234, fun o => o = tabObj #[])]
theorem AllN.app : ∀ {a b : List Nat} {u v : List Value}, AllN a u → AllN b v → AllN (a ++ b) (u ++ v)
  | [], _, [], _, _, h => h
  | [], _, _ :: _, _, e, _ => e.elim
  | _ :: _, _, [], _, e, _ => e.elim
  | _ :: a, _, _ :: u, _, e, h => ⟨e.1, AllN.app (a := a) (u := u) e.2 h⟩
theorem AllN.dropN : ∀ {a : List Nat} {u : List Value}, AllN a u → ∀ k, AllN (a.drop k) (u.drop k)
  | a, u, h, 0 => h
  | [], [], _, _ + 1 => trivial
  | [], _ :: _, e, _ => e.elim
  | _ :: _, [], e, _ => e.elim
  | _ :: a, _ :: u, e, k + 1 => AllN.dropN (a := a) (u := u) e.2 k
section
variable {prog : Program} {w : World} {A : Around}
theorem cn_law {ls : Addr} {xs : List Int} {xvs : List Value} (r : Room A 12) (hh : A.handled = none) (hfr : A.frames = some []) (hx : AllI xs xvs) (hz : xs.length ≤ 63) :
    CnC prog w (KK w) A (.ref 242) [.ref ls] (Mpre (KK w) tabMu fun h => h.IsList ls xvs.toArray) (MutR tabMu fun v mu' _ => v = .bool true ∧ mu' = [(234, Grown)]) := by
  refine CnC.of_bodyM (binds := [(PySem.Str.ofString "script", .ref ls)]) (fun h h' x k => let ⟨o, ho, r⟩ := x; ⟨o, k _ _ ho, r⟩) r (kk_look (by k_is)) (kk_code (by k_is)) rfl rfl (by decide) rfl fun h₀ L WD hX => ?_
  have hxl : xvs.length = xs.length := by rw [AllV.length hx, List.length_map]
  have hns : AllI (xs.take 12) (xvs.take 12) := AllV.of_get (by rw [List.length_take, List.length_take, hxl]) fun j u a x e => by
    rw [List.getElem?_take] at x e
    split at x
    · rename_i hj
      rw [if_pos hj] at e
      obtain ⟨b, hb, hu⟩ := AllV.at hx x
      rw [e] at hb; cases hb
      exact hu
    · cases x
  generalize hnn : xs.take 12 = ns at hns
  have hnl : ns.length ≤ 12 := by rw [← hnn, List.length_take]; omega
  generalize hnv : xvs.take 12 = nvs at hns
  have hnvl : nvs.length = ns.length := by rw [AllV.length hns, List.length_map]
  refine Ex.setW (W.slice (Ev.locS rfl) (fun g S => let ⟨o, ho, rr⟩ := hX; ⟨o, S.base _ _ ho, rr⟩) (by show xvs.length ≤ 1000000; omega) (Ev.nat (n := 12)) fun lnum => ?_)
  rw [hnv]
  -- drawn
  refine Ex.setComp (n := nvs.length) (P := fun i v => nvs[i]? = some v) (p := fun _ => true) (F := fun u v => IsN ((valI u).fmod 1000000000).toNat v) (cl := []) ?_ (by omega) rfl fun ldr us dvs hlen hP hF => ?_
  · refine Tr.mono (Ev.locS up_self) fun xv g r1 => ?_
    obtain ⟨rx, S⟩ := r1
    cases rx
    refine ⟨S, Src.list hh (S.list (i := 0) rfl).isList, fun C i u g _ _ => no_tests, fun C i u g hPi _ k => ?_⟩
    obtain ⟨x, hxx, hxu⟩ := AllV.at hns hPi
    rw [valI_of hxu]
    exact Ev.mono (Ev.bin (Ev.mono Ev.own fun _ e => e ▸ hxu) (Ev.bin (Ev.int (n := 10)) (Ev.int (n := 9)) (o_pow (by decide) (by decide) (by decide))) (o_mod (by decide))) fun v hv => by show IsI _ v; rw [fmod_nat]; exact hv
  have hdr : AllN (drawnOf ns) dvs := comp_list (f := fun x => IsI x) (val := valI) (V := fun x => IsN (x.fmod 1000000000).toNat) (fun a u h => valI_of h) hns hlen hP hF |> fun h => by unfold drawnOf AllN; rw [List.map_map]; exact h
  have hdl : (drawnOf ns).length = ns.length := by unfold drawnOf; rw [List.length_map]
  have hdvl := hdr.length
  -- total
  refine Ex.setW (W.ev (V := IsN (totalOf ns)) (Ev.bin (Ev.nat (n := 198)) (Ev.callB (Ev.builtin St.okk (g_sum w) boot_sum (by decide)) (Es.cons (Ev.locS up_self) Es.nil) (sum_okN St.okk hh hdr (fun g S => (S.list (i := 0) rfl).isList) (by omega))) n_add) fun vtot htot => ?_)
  -- own
  refine Ex.setW (W.list (Vs := ownL.map fun n => IsN n) (Es.cons Ev.nat (Es.cons Ev.nat (Es.cons Ev.nat (Es.cons Ev.nat (Es.cons Ev.nat (Es.cons Ev.nat (Es.cons Ev.nat (Es.cons Ev.nat (Es.cons Ev.nat (Es.cons Ev.nat (Es.cons Ev.nat (Es.cons Ev.nat Es.nil)))))))))))) (Nat.le_of_ble_eq_true rfl) fun lown ovs hown => ?_)
  have hown : AllN ownL ovs := hown
  have hovl := hown.length
  have hol : ownL.length = 12 := rfl
  -- plain
  have hsrcN : AllN (drawnOf ns ++ ownL.drop (drawnOf ns).length) (dvs ++ ovs.drop (drawnOf ns).length) := AllN.app hdr (AllN.dropN hown _)
  refine Ex.setCW (c := L + 1) rfl (W.comp (n := (dvs ++ ovs.drop (drawnOf ns).length).length) (P := fun i v => (dvs ++ ovs.drop (drawnOf ns).length)[i]? = some v) (p := fun _ => true) (F := fun u v => IsN (codeOf (valN u)) v) (cl := []) ?_ (by rw [List.length_append, List.length_drop]; omega) rfl fun lpl us2 pvs hlen2 hP2 hF2 => ?_)
  · refine Tr.mono (W.bin (C := fun v led1 => ∃ l D, v = .ref l ∧ led1 = (l, PL (dvs ++ ovs.drop (drawnOf ns).length)) :: (D, PL (ovs.drop (drawnOf ns).length)) :: (lown, PL ovs) :: (ldr, PL dvs) :: (lnum, PL nvs) :: tabMu) (W.ev (Ev.locS rfl) fun a ha => W.sliceFrom (Ev.locS up_self) (fun g S => (S.list (i := 0) rfl).isList) (by show ovs.length ≤ 1000000; omega) (Ev.callB (Ev.builtin St.okk (g_len w) boot_len (by decide)) (Es.cons (Ev.locS rfl) Es.nil) (len_okN hdr (fun g S => (S.list (i := 1) rfl).isList) (by omega))) fun D => ?_)) fun xv g ⟨led1, ⟨l, D, e1, e2⟩, S⟩ => ?_
    · cases ha
      exact W.cat 2 0 rfl rfl (by show dvs.length + (ovs.drop _).length ≤ 1000000; rw [List.length_drop]; omega) fun l => ⟨l, D, rfl, rfl⟩
    · subst e1 e2
      refine ⟨S.drop1.drop1, Src.list hh (S.list (i := 0) rfl).isList, fun C i u g _ _ => no_tests, fun C i u g hPi _ k => ?_⟩
      obtain ⟨x, hxx, hxu⟩ := AllV.at hsrcN hPi
      have hxu : IsN x u := hxu
      rw [IsI.valN hxu]
      have hx30 : x < 2 ^ 30 := by
        rcases List.mem_append.mp (List.mem_of_getElem? hxx) with hm | hm
        · have := drawn_lt x hm
          omega
        · have : ∀ y ∈ ownL, y < 2 ^ 30 := by decide
          exact this x (List.mem_of_mem_drop hm)
      exact Ev.callDef (IC.okk (S.wdh.ext k)) (Ev.global (IC.okk (S.wdh.ext k)) (g_law_code w)) (Es.cons Ev.own Es.nil) (kk_fn (by k_is)) (all1 fun v e => e ▸ pc_code ((r.deeper _).less (by decide)) hx30 hxu)
  have hpl : AllN (plainOf ns) pvs := comp_list (f := fun x => IsN x) (val := valN) (V := fun x => IsN (codeOf x)) (fun a u h => IsI.valN h) hsrcN hlen2 hP2 hF2 |> fun h => by unfold plainOf AllN; rw [List.map_map]; exact h
  have hp12 : (plainOf ns).length = 12 := plain_len hnl
  have hpvl := hpl.length
  have hid15 : hidOf ns < 15 := Nat.mod_lt _ (by decide)
  -- judges, hiding, places
  refine Ex.unpackN (names := [PySem.Str.ofString "judges", PySem.Str.ofString "hiding", PySem.Str.ofString "places"]) hh (W.tuple (Es.one (W.alI (Tr.mono (Tr.callCn0 St.okk (Ev.global St.okk (g_law_judges w)) (kk_fn (by k_is)) (fun _ _ => trivial) (cn_judges ((r.deeper _).less (by decide)))) fun v h' rr => Al.of rr) fun lj => Es.one (W.ev (V := IsN (hidOf ns)) (Ev.bin (Ev.bin (Ev.mono (V := IsV vtot) (Ev.locS rfl) fun _ e => e ▸ htot) Ev.nat (n_divL (by decide) (by decide))) Ev.nat (n_mod (by decide))) fun vhid hhid => Es.one (W.alI (Tr.callT (Ev.builtin St.okk (g_range w) boot_range (by decide)) (Es.cons (V := IsN 12) (Ev.callB (Ev.builtin St.okk (g_len w) boot_len (by decide)) (Es.cons (Ev.cellS (c := L + 1) up_self rfl) Es.nil) ?_) Es.nil) range1_ok) fun rg => Es.done ⟨Nat.le_of_ble_eq_true rfl, fun t => ⟨t, _, rfl, ⟨0, rfl⟩, rfl, Ex.dropW ?_⟩⟩)))))
    (.cons (fun v s Q E h => wpAny_assign_Name h) (.cons (fun v s Q E h => wpAny_assign_Name h) (.cons (fun v s Q E h => wpAny_assign_Name h) .nil)))
  · rw [← hp12]
    exact len_okN hpl (fun g S => (S.list (i := 1) rfl).isList) (by omega)
  have hplen : ∀ {j : Nat}, j ∈ List.range 12 → j < (plainOf ns).length := fun h => by rw [hp12]; exact List.mem_range.mp h
  have hplt : ∀ j, (plainOf ns).getD j 0 < 55040 := fun j => by
    rw [List.getD_eq_getElem?_getD]
    cases e : (plainOf ns)[j]? with
    | none => show 0 < 55040; decide
    | some c => exact plain_lt c (List.mem_of_getElem? e)
  obtain ⟨ja, hja, hjf, hjp⟩ := judge_of (prog := prog) (w := w) hid15
  -- answers
  refine Ex.setCW (c := L + 4) rfl (W.over (List.range 12) (fun j => IsN j) (fun j v => IsB (jF (hidOf ns) ((((plainOf ns).getD j 0) : Nat) : Int)) v) inj_N (by decide) (src_places 0 hh (Ev.locS rfl) rfl (by decide)) rfl (fun h₁ S C j u g hj hu k => ?_) fun lan avs hav => ?_)
  · exact Ev.callDef (IC.okk (S.wdh.ext k)) (Ev.item (k := ((hidOf ns : Nat) : Int)) (Ev.cellI (c := L + 2) (fun g' i => S.cellE (n := PySem.Str.ofString "judges") (v := .ref lj) (k.trans i.1) rfl rfl) rfl) (Ev.mono (V := IsV vhid) (Ev.cellI (c := L + 3) (fun g' i => S.cellE (n := PySem.Str.ofString "hiding") (v := vhid) (k.trans i.1) rfl rfl) rfl) fun _ e => e ▸ hhid) (fun g' i => ((S.list (i := 1) rfl).ext (k.trans i.1)).isList) (by omega) (by omega) (by rw [Int.toNat_natCast]; exact hja)) (Es.cons (V := CodeIs ((((plainOf ns).getD j 0) : Nat) : Int)) (Ev.ife (Tv.plain (Ev.bin (Ev.mono Ev.own fun _ e => e ▸ hu) Ev.nat (n_mod (by decide))) tr_int) (fun _ => Ev.mono (Ev.mono (Ev.callB (Ev.builtin (IC.okk (S.wdh.ext k)) (g_chr w) boot_chr (by decide)) (Es.cons (Ev.itemN (Ev.cellI (c := L + 1) (fun g' i => S.cellE (n := PySem.Str.ofString "plain") (v := .ref lpl) (k.trans i.1) rfl rfl) rfl) (Ev.mono Ev.own fun _ e => e ▸ hu) hpl (fun g' i => ((S.list (i := 2) rfl).ext (k.trans i.1)).isList) (hplen hj) (by omega)) Es.nil) (chr_ok (n := ((((plainOf ns).getD j 0) : Nat) : Int)) (by omega) (by have := hplt j; omega))) fun v hv => by rw [Int.toNat_natCast] at hv; exact hv) fun v hv => .inr ⟨_, rfl, hv⟩) fun _ => Ev.mono (Ev.itemN (Ev.cellI (c := L + 1) (fun g' i => S.cellE (n := PySem.Str.ofString "plain") (v := .ref lpl) (k.trans i.1) rfl rfl) rfl) (Ev.mono Ev.own fun _ e => e ▸ hu) hpl (fun g' i => ((S.list (i := 2) rfl).ext (k.trans i.1)).isList) (hplen hj) (by omega)) fun v hv => .inl hv) Es.nil) hjf (all1 fun v hv => hjp ((r.deeper _).less (by decide)) hv)
  -- hidden
  refine Ex.setCW (c := L + 5) rfl (W.over (List.range 12) (fun j => IsN j) (fun j v => IsStr ⟨#[mark ((plainOf ns).getD j 0)]⟩ v) inj_N (by decide) (src_places 1 hh (Ev.locS rfl) rfl (by decide)) rfl (fun h₁ S C j u g hj hu k => ?_) fun lhd hvs hhv => ?_)
  · exact Ev.ife (Tv.plain (Ev.bin (Ev.mono Ev.own fun _ e => e ▸ hu) Ev.nat (n_mod (by decide))) tr_int) (fun _ => (Ev.mono (Ev.callB (Ev.builtin (IC.okk (S.wdh.ext k)) (g_chr w) boot_chr (by decide)) (Es.cons (Ev.callDef (IC.okk (S.wdh.ext k)) (Ev.global (IC.okk (S.wdh.ext k)) (g_alt w)) (Es.cons (Ev.itemN (Ev.cellI (c := L + 1) (fun g' i => S.cellE (n := PySem.Str.ofString "plain") (v := .ref lpl) (k.trans i.1) rfl rfl) rfl) (Ev.mono Ev.own fun _ e => e ▸ hu) hpl (fun g' i => ((S.list (i := 3) rfl).ext (k.trans i.1)).isList) (hplen hj) (by omega)) Es.nil) (kk_fn (by k_is)) (all1 fun v hv => pc_alt_i ((r.deeper _).less (by decide)) (c := ((plainOf ns).getD j 0)) hv)) Es.nil) (chr_ok (n := ((mark ((plainOf ns).getD j 0) : Nat) : Int)) (by omega) (by have := mark_lt (hplt j); omega))) fun v hv => by rw [Int.toNat_natCast] at hv; exact hv)) fun _ => (Ev.callDef (IC.okk (S.wdh.ext k)) (Ev.global (IC.okk (S.wdh.ext k)) (g_alt w)) (Es.cons (Ev.mono (Ev.callB (Ev.builtin (IC.okk (S.wdh.ext k)) (g_chr w) boot_chr (by decide)) (Es.cons (Ev.itemN (Ev.cellI (c := L + 1) (fun g' i => S.cellE (n := PySem.Str.ofString "plain") (v := .ref lpl) (k.trans i.1) rfl rfl) rfl) (Ev.mono Ev.own fun _ e => e ▸ hu) hpl (fun g' i => ((S.list (i := 3) rfl).ext (k.trans i.1)).isList) (hplen hj) (by omega)) Es.nil) (chr_ok (n := ((((plainOf ns).getD j 0) : Nat) : Int)) (by omega) (by have := hplt j; omega))) fun v hv => by rw [Int.toNat_natCast] at hv; exact hv) Es.nil) (kk_fn (by k_is)) (all1 fun v hv => pc_alt_s ((r.deeper _).less (by decide)) (c := ((plainOf ns).getD j 0)) hv (by have := hplt j; omega)))
  have hav : AllV ((plainOf ns).map fun c => IsB (jF (hidOf ns) ((c : Nat) : Int))) avs := by
    rw [← range_getD (plainOf ns) fun c => IsB (jF (hidOf ns) ((c : Nat) : Int)), hp12]
    exact hav
  have hhv : AllV (((plainOf ns).map mark).map fun c => IsStr ⟨#[c]⟩) hvs := by
    rw [List.map_map, ← range_getD (plainOf ns) ((fun c => IsStr ⟨#[c]⟩) ∘ mark), hp12]
    exact hhv
  have hgetD : ∀ {j : Nat}, j ∈ List.range 12 → (plainOf ns)[j]? = some ((plainOf ns).getD j 0) := fun h => by
    rw [List.getD_eq_getElem?_getD, List.getElem?_eq_getElem (hplen h)]; rfl
  -- text
  refine Ex.setW (W.join rfl (W.over (List.range 12) (fun j => IsN j) (fun j v => IsStr ⟨#[if jF (hidOf ns) ((((plainOf ns).getD j 0) : Nat) : Int) = true then mark ((plainOf ns).getD j 0) else ((plainOf ns).getD j 0)]⟩ v) inj_N (by decide) (src_places 2 hh (Ev.locS rfl) rfl (by decide)) rfl (fun h₁ S C j u g hj hu k => ?_) fun D tvs htv => ⟨D, tvs, codesOf ns, rfl, ⟨0, rfl⟩, ?_, by rw [codes_len hnl]; decide, fun vt hvt => Ex.dropW ?_⟩))
  · obtain ⟨b1, hb1, hb1'⟩ := AllV.nth hav (hgetD hj)
    obtain ⟨b2, hb2, hb2'⟩ := AllV.nth (l := (plainOf ns).map mark) hhv (j := j) (a := mark ((plainOf ns).getD j 0)) (by rw [List.getElem?_map, hgetD hj]; rfl)
    have hj12 := List.mem_range.mp hj
    refine Ev.ife (Tv.plain (Ev.mono (V := IsV b1) (V' := IsB (jF (hidOf ns) ((((plainOf ns).getD j 0) : Nat) : Int))) (Ev.item (k := (j : Int)) (Ev.cellI (c := L + 4) (fun g' i => S.cellE (n := PySem.Str.ofString "answers") (v := .ref lan) (k.trans i.1) rfl rfl) rfl) (Ev.mono Ev.own fun _ e => e ▸ hu) (fun g' i => ((S.list (i := 1) rfl).ext (k.trans i.1)).isList) (by omega) (by omega) (by rw [Int.toNat_natCast]; exact hb1)) fun v e => e ▸ hb1') tr_bool) (fun e => ?_) fun e => ?_
    · rw [if_pos e]
      exact Ev.mono (V := IsV b2) (Ev.item (k := (j : Int)) (Ev.cellI (c := L + 5) (fun g' i => S.cellE (n := PySem.Str.ofString "hidden") (v := .ref lhd) (k.trans i.1) rfl rfl) rfl) (Ev.mono Ev.own fun _ e => e ▸ hu) (fun g' i => ((S.list (i := 0) rfl).ext (k.trans i.1)).isList) (by omega) (by omega) (by rw [Int.toNat_natCast]; exact hb2)) fun v e => e ▸ hb2'
    · rw [if_neg (by rw [e]; decide)]
      exact (Ev.mono (Ev.callB (Ev.builtin (IC.okk (S.wdh.ext k)) (g_chr w) boot_chr (by decide)) (Es.cons (Ev.itemN (Ev.cellI (c := L + 1) (fun g' i => S.cellE (n := PySem.Str.ofString "plain") (v := .ref lpl) (k.trans i.1) rfl rfl) rfl) (Ev.mono Ev.own fun _ e => e ▸ hu) hpl (fun g' i => ((S.list (i := 4) rfl).ext (k.trans i.1)).isList) (hplen hj) (by omega)) Es.nil) (chr_ok (n := ((((plainOf ns).getD j 0) : Nat) : Int)) (by omega) (by have := hplt j; omega))) fun v hv => by rw [Int.toNat_natCast] at hv; exact hv)
  · unfold codesOf
    rw [List.map_map, ← range_getD (plainOf ns) ((fun c => IsStr ⟨#[c]⟩) ∘ fun (c : Nat) => if jF (hidOf ns) (c : Int) = true then mark c else c), hp12]
    exact htv
  -- answers.extend
  refine Ex.exprW (W.lmeth1 (id := "list.extend") 1 (Ev.cellS (c := L + 4) rfl rfl) rfl F.slot_list_extend rfl (W.over ns (fun x => IsI x) (fun x => IsB (jF (hidOf ns) x)) inj_I (by omega) (src_list 7 hh (Ev.locS rfl) rfl hns) rfl (fun h₁ S C x u g hx1 hu k => ?_) fun D evs hev => W.extend 2 0 rfl rfl ?_ ⟨rfl, Ex.dropW ?_⟩))
  · exact Ev.callDef (IC.okk (S.wdh.ext k)) (Ev.item (k := ((hidOf ns : Nat) : Int)) (Ev.cellI (c := L + 2) (fun g' i => S.cellE (n := PySem.Str.ofString "judges") (v := .ref lj) (k.trans i.1) rfl rfl) rfl) (Ev.mono (V := IsV vhid) (Ev.cellI (c := L + 3) (fun g' i => S.cellE (n := PySem.Str.ofString "hiding") (v := vhid) (k.trans i.1) rfl rfl) rfl) fun _ e => e ▸ hhid) (fun g' i => ((S.list (i := 3) rfl).ext (k.trans i.1)).isList) (by omega) (by omega) (by rw [Int.toNat_natCast]; exact hja)) (Es.cons (V := CodeIs x) (Ev.mono Ev.own fun _ e => .inl (e ▸ hu)) Es.nil) hjf (all1 fun v hv => hjp ((r.deeper _).less (by decide)) hv)
  · have h1 := AllV.length hav
    have h2 := AllV.length hev
    rw [List.length_map] at h1 h2
    show avs.length + evs.length ≤ 1000000
    omega
  obtain ⟨zs, hzs⟩ : ∃ zs : List Int, zs = (plainOf ns).map Int.ofNat ++ ns := ⟨_, rfl⟩
  have hall : AllV (zs.map fun x => IsB (jF (hidOf ns) x)) (avs ++ evs) := by
    rw [hzs, List.map_append, List.map_map]
    exact AllV.append hav hev
  -- held
  have hzl : zs.length ≤ 24 := by rw [hzs, List.length_append, List.length_map]; omega
  refine Ex.setCW (c := L + 6) rfl (W.over (zs.map stch) (fun c => IsStr ⟨#[c]⟩) (fun c => IsB (decide (c ∈ kindL.getD (hidOf ns) []))) inj_S (by rw [List.length_map]; omega)
    (Tr.mono (W.callW (C := fun v led1 => ∃ l T, v = .ref l ∧ led1 = (l, SL (zs.map stch)) :: (T, PL (pvs ++ nvs)) :: (lhd, PL hvs) :: (lan, PL (avs ++ evs)) :: (rg, Rg 0 ((12 : Nat) : Int)) :: (lj, PL (jads.map Value.ref)) :: (lpl, PL pvs) :: (lown, PL ovs) :: (ldr, PL dvs) :: (lnum, PL nvs) :: tabMu) (Ev.global St.okk (g_law_stretches w)) (k_stretches w) (W.bin (W.ev (V := IsV (.ref lpl)) (Ev.cellS (c := L + 1) rfl rfl) fun a ha => W.ev (V := IsV (.ref lnum)) (Ev.locS rfl) fun b hb => ?_))) fun xv h₁ r1 => ?_) rfl (fun h₁ S C c u g hc hu k => ?_) fun lhe hds hhd => ?_)
  · cases ha
    cases hb
    refine W.cat 4 7 rfl rfl (by show pvs.length + nvs.length ≤ 1000000; omega) fun T => W.al (P := SL (zs.map stch)) (fun h S => Run.mono (cn_stretches (ns := zs) (us := pvs ++ nvs) ((r.deeper _).less (by decide)) hh ?_ (by omega) h S.wdh (S.list (i := 0) rfl).isList) fun v h' rr => ⟨h, S, rr⟩) fun l => ⟨l, T, rfl, rfl⟩
    unfold AllI
    rw [hzs, List.map_append]
    exact AllV.append hpl.ai hns
  · obtain ⟨led1, ⟨l, T, rfl, rfl⟩, S⟩ := r1
    obtain ⟨o, ho, vs, ⟨n, rfl⟩, hvs⟩ := S.has (i := 0) rfl
    exact ⟨S.drop1.drop1, Src.over hh ⟨_, ho, rfl, n, rfl⟩ hvs⟩
  · exact Ev.cmp (Ev.mono Ev.own fun _ e => e ▸ hu) (Ev.itemNew (k := ((hidOf ns : Nat) : Int)) (IC.okk (S.wdh.ext k)) (Tr.callCn0 (IC.okk (S.wdh.ext k)) (Ev.global (IC.okk (S.wdh.ext k)) (g_law_kinds w)) (kk_fn (by k_is)) (fun _ _ => trivial) (cn_kinds ((r.deeper _).less (by decide)))) (fun J okJ hJ => Ev.mono (V := IsV vhid) (Ev.cellI (c := L + 3) (fun g' i => S.cellE (n := PySem.Str.ofString "hiding") (v := vhid) (k.trans (hJ _ i).1) rfl rfl) rfl) fun _ e => e ▸ hhid) (by omega) (by omega) (by rw [Int.toNat_natCast, List.getD_eq_getElem?_getD, List.getElem?_eq_getElem (show hidOf ns < kindL.length from hid15)]; rfl)) c_inT
  have hhd : AllV (zs.map fun x => IsB (jF (hidOf ns) x)) hds := by
    have e : (fun x => IsB (jF (hidOf ns) x)) = (fun c => IsB (decide (c ∈ kindL.getD (hidOf ns) []))) ∘ stch := by
      funext x
      rw [judge_kind hid15]
      rfl
    rw [e, ← List.map_map]
    exact hhd
  obtain ⟨bs, hbs⟩ : ∃ bs : List Bool, bs = zs.map (jF (hidOf ns)) := ⟨_, rfl⟩
  have hallB : AllV (bs.map fun b => IsB b) (avs ++ evs) := by rw [hbs, List.map_map]; exact hall
  have hhdB : AllV (bs.map fun b => IsB b) hds := by rw [hbs, List.map_map]; exact hhd
  have hbl : bs.length ≤ 1000000 := by rw [hbs, List.length_map]; omega
  -- the first refusal
  refine Ex.if_ (b := false) (J := St _ _ _ _ _ _ _) (Tv.or (b := false) (c := false) (Tv.cmpS (W.over bs (fun b => IsB b) (fun b => IsB (b == true)) inj_B hbl (src_list 2 hh (Ev.cellS (c := L + 4) rfl rfl) rfl hallB) rfl (fun h₁ S C b u g hb hu k => ?_) fun D us hus => W.ev (V := IsV (.ref lhe)) (Ev.cellS (c := L + 6) rfl rfl) fun v hv => ⟨fun h S => S.drop1, fun h S => ?_⟩))
    fun _ => Tv.or (b := false) (c := false) (Tv.cmpS (W.over bs (fun b => IsB b) (fun b => IsB (b == false)) inj_B hbl (src_list 2 hh (Ev.cellS (c := L + 4) rfl rfl) rfl hallB) rfl (fun h₁ S C b u g hb hu k => ?_) fun D us hus => W.over bs (fun b => IsB b) (fun b => IsB (!b)) inj_B hbl (src_list 1 hh (Ev.cellS (c := L + 6) rfl rfl) rfl hhdB) rfl (fun h₁ S C b u g hb hu k => ?_) fun D2 us2 hus2 => ⟨fun h S => S.drop1.drop1, fun h S => ?_⟩)) fun _ => Tv.or_nil)
    (fun e => nomatch e) (fun _ => Ex.nil fun g S => S) ?_
  · exact Ev.cmp (Ev.mono Ev.own fun _ e => e ▸ hu) Ev.cbool c_is
  · cases hv
    exact (ne_all (xs := bs) (ys := bs) (f := fun b => IsB (b == true)) (g := fun b => IsB b) (r.deeper _).units (S.list (i := 0) rfl).isList (S.list (i := 1) rfl).isList hus hhdB fun a b v u ha hb s hs => by cases a <;> exact bool_same _ _ v u ha hb s hs).mono fun d h' rr => ⟨(show (!decide (bs = bs)) = false by simp) ▸ rr.1, rr.2⟩
  · exact Ev.cmp (Ev.mono Ev.own fun _ e => e ▸ hu) Ev.cbool c_is
  · exact Ev.not (Ev.mono Ev.own fun _ e => e ▸ hu) tr_bool
  · exact (ne_all (xs := bs) (ys := bs) (f := fun b => IsB (b == false)) (g := fun b => IsB (!b)) (r.deeper _).units (S.list (i := 1) rfl).isList (S.list (i := 0) rfl).isList hus hus2 fun a b v u ha hb s hs => by cases a <;> cases b <;> exact bool_same _ _ v u ha hb s hs).mono fun d h' rr => ⟨(show (!decide (bs = bs)) = false by simp) ▸ rr.1, rr.2⟩
  -- marked
  refine Ex.setCW (c := L + 7) rfl (W.over (plainOf ns) (fun c => IsN c) (fun c => IsN (mark c)) inj_N (by omega) (src_list 5 hh (Ev.cellS (c := L + 1) rfl rfl) rfl hpl) rfl (fun h₁ S C c u g hc hu k => ?_) fun lmk mvs hmv => ?_)
  · exact Ev.bin (Ev.mono Ev.own fun _ e => e ▸ hu) (Ev.bin (Ev.nat (n := 128)) (Ev.bin (Ev.nat (n := 1)) (Ev.bin (Ev.bin (Ev.mono Ev.own fun _ e => e ▸ hu) (Ev.nat (n := 128)) (n_divL (by decide) (by decide))) (Ev.nat (n := 2)) (n_mod (by decide))) (n_sub (by omega))) (n_mul (by decide))) n_add
  have hmv : AllV (((plainOf ns).map mark).map fun c => IsN c) mvs := by rw [List.map_map]; exact hmv
  -- the second refusal
  refine Ex.if_ (b := false) (J := St _ _ _ _ _ _ _) (Tv.cmpS (W.over ((plainOf ns).map mark) (fun c => IsStr ⟨#[c]⟩) (fun c => IsN c) inj_S (by rw [List.length_map]; omega) (src_list 2 hh (Ev.cellS (c := L + 5) rfl rfl) rfl hhv) rfl (fun h₁ S C c u g hc hu k => ?_) fun D us hus => W.ev (V := IsV (.ref lmk)) (Ev.cellS (c := L + 7) rfl rfl) fun v hv => ⟨fun h S => S.drop1, fun h S => ?_⟩))
    (fun e => nomatch e) (fun _ => Ex.nil fun g S => S) ?_
  · exact Ev.callB (Ev.builtin (IC.okk (S.wdh.ext k)) (g_ord w) boot_ord (by decide)) (Es.cons (Ev.mono Ev.own fun _ e => e ▸ hu) Es.nil) ord_one
  · cases hv
    exact (ne_all (xs := (plainOf ns).map mark) (ys := (plainOf ns).map mark) (f := fun c => IsN c) (g := fun c => IsN c) (r.deeper _).units (S.list (i := 0) rfl).isList (S.list (i := 1) rfl).isList hus hmv fun a b v u ha hb s hs => int_same a b v u ha hb s hs).mono fun d h' rr => ⟨(show (!decide ((plainOf ns).map mark = (plainOf ns).map mark)) = false by simp) ▸ rr.1, rr.2⟩
  -- codes
  refine Ex.setOver (List.range 12) (fun j => IsN j) (fun j v => IsN (if jF (hidOf ns) ((((plainOf ns).getD j 0) : Nat) : Int) = true then mark ((plainOf ns).getD j 0) else ((plainOf ns).getD j 0)) v) inj_N (by decide) (src_places 4 hh (Ev.locS rfl) rfl (by decide)) rfl (fun h₁ S C j u g hj hu k => ?_) fun lco cvs hcv => ?_
  · obtain ⟨b1, hb1, hb1'⟩ := AllV.nth (l := zs) hhd (j := j) (a := ((((plainOf ns).getD j 0) : Nat) : Int)) (by rw [hzs, List.getElem?_append_left (by rw [List.length_map]; exact hplen hj), List.getElem?_map, hgetD hj]; rfl)
    have hj12 := List.mem_range.mp hj
    refine Ev.ife (Tv.plain (Ev.mono (V := IsV b1) (V' := IsB (jF (hidOf ns) ((((plainOf ns).getD j 0) : Nat) : Int))) (Ev.item (k := (j : Int)) (Ev.cellI (c := L + 6) (fun g' i => S.cellE (n := PySem.Str.ofString "held") (v := .ref lhe) (k.trans i.1) rfl rfl) rfl) (Ev.mono Ev.own fun _ e => e ▸ hu) (fun g' i => ((S.list (i := 1) rfl).ext (k.trans i.1)).isList) (by omega) (by omega) (by rw [Int.toNat_natCast]; exact hb1)) fun v e => e ▸ hb1') tr_bool) (fun e => ?_) fun e => ?_
    · rw [if_pos e]
      obtain ⟨b2, hb2, hb2'⟩ := AllV.nth (l := (plainOf ns).map mark) hmv (j := j) (a := mark ((plainOf ns).getD j 0)) (by rw [List.getElem?_map, hgetD hj]; rfl)
      exact Ev.mono (V := IsV b2) (Ev.item (k := (j : Int)) (Ev.cellI (c := L + 7) (fun g' i => S.cellE (n := PySem.Str.ofString "marked") (v := .ref lmk) (k.trans i.1) rfl rfl) rfl) (Ev.mono Ev.own fun _ e => e ▸ hu) (fun g' i => ((S.list (i := 0) rfl).ext (k.trans i.1)).isList) (by omega) (by omega) (by rw [Int.toNat_natCast]; exact hb2)) fun v e => e ▸ hb2'
    · rw [if_neg (by rw [e]; decide)]
      exact (Ev.itemN (Ev.cellI (c := L + 1) (fun g' i => S.cellE (n := PySem.Str.ofString "plain") (v := .ref lpl) (k.trans i.1) rfl rfl) rfl) (Ev.mono Ev.own fun _ e => e ▸ hu) hpl (fun g' i => ((S.list (i := 6) rfl).ext (k.trans i.1)).isList) (hplen hj) (by omega))
  have hcv : AllN (codesOf ns) cvs := by
    unfold codesOf AllN
    rw [List.map_map, ← range_getD (plainOf ns) ((fun n => IsN n) ∘ fun (c : Nat) => if jF (hidOf ns) (c : Int) = true then mark c else c), hp12]
    exact hcv
  refine Ex.subW (led' := [(lco, PL cvs), (lj, PL (jads.map Value.ref)), (234, fun o => o = tabObj #[])]) (fun g S => S.sublist (.cons₂ _ (.cons _ (.cons _ (.cons _ (.cons _ (.cons _ (.cons₂ _ (.cons _ (.cons _ (.cons _ (.cons _ (.cons₂ _ .slnil))))))))))))) ?_
  -- due
  have hk15 : totalOf ns % 15 < 15 := Nat.mod_lt _ (by decide)
  refine Ex.setW (W.als (Q := fun v news => ∃ l n ts vn, DueR (codesOf ns) (totalOf ns % 15) v news l n ts vn) (Tr.callCn (pre := fun h => h.IsList lco cvs.toArray) St.okk (Ev.global St.okk (g_law_due w)) (Es.cons (Ev.locS rfl) (Es.cons (Ev.bin (Ev.mono (V := IsV vtot) (Ev.locS rfl) fun _ e => e ▸ htot) (Ev.nat (n := 15)) (n_mod (by decide))) Es.nil)) (kk_fn (by k_is)) (fun g S => (S.list (i := 0) rfl).isList) (all2 fun a b ha hb => ?_)) fun v news hQ => ?_)
  · cases ha
    exact cn_due ((r.deeper _).less (by decide)) hh hcv hb hk15 (fun c hc => codes_lt c hc) (by rw [codes_len hnl]; decide) (by rw [codes_len hnl]; decide)
  obtain ⟨l, n, ts, vn, rfl, rfl, hents, hkn, hn⟩ := hQ
  refine Ex.subW (led' := (234, fun o => o = tabObj #[]) :: (lj, PL (jads.map Value.ref)) :: (l, PL (ts.map (fun q => Value.ref q.at_) ++ [vn])) :: tls ts) (fun g S => (S.sublist (.append (.refl _) (.cons _ (.refl _)))).perm (List.perm_append_comm.trans (.swap _ _ _))) ?_
  have htl : ts.length = n := by rw [← hents.length, ents_len]
  -- read
  refine Ex.retW (W.cmp (W.callE (Vs := [IsT (codesOf ns), IsR lj, IsN (totalOf ns % 15), IsN n]) (Ev.global St.okk (g_law_read w)) (k_read w) (Es.cons (Ev.mono (V := IsV vt) (Ev.locS rfl) fun _ e => e ▸ hvt) (Es.cons (Ev.cellS (c := L + 2) rfl rfl) (Es.cons (Ev.bin (Ev.mono (V := IsV vtot) (Ev.locS rfl) fun _ e => e ▸ htot) (Ev.nat (n := 15)) (n_mod (by decide)))
    (Es.cons (Ev.mono (V := IsN ((ts.map (fun q => Value.ref q.at_) ++ [vn]).length - 1)) (Ev.bin (Ev.callB (Ev.builtin St.okk (g_len w) boot_len (by decide)) (Es.cons (Ev.locS up_self) Es.nil) (len_ok (fun g S => (S.list (i := 2) rfl).isList) ?_)) (Ev.nat (n := 1)) (n_sub (by rw [List.length_append]; exact Nat.le_add_left ..))) fun v hv => ?_) Es.nil)))) fun vs hvs => ?_))
  · show (ts.map (fun q => Value.ref q.at_) ++ [vn]).length ≤ 1000000
    rw [List.length_append, List.length_map, htl]
    show n + 1 ≤ 1000000
    omega
  · rw [List.length_append, List.length_map, htl] at hv
    exact hv
  match vs, hvs with
  | [a, b, c, d], ⟨ha, hb, hc, hd, _⟩ =>
    cases hb
    refine Cn.mutF (cn_law_read ((r.deeper _).less (by decide)) hh (Around.frames_deeper hfr) rfl rfl ha hc hk15 hd hn (fun c hc => codes_lt c hc) (by rw [codes_len hnl]; decide) (by rw [codes_len hnl]; decide)).cn (fun h S => ?_) fun v mu' news hP => ?_
    · obtain ⟨o, ho, rr⟩ := (S.list (i := 1) rfl).isList
      refine ⟨o, hideAll_get _ ho fun hm => ?_, rr⟩
      have h1 := (S.ld _ (List.mem_cons_of_mem _ (List.mem_cons_self ..))).2.1
      have h2 := S.notIn _ (List.mem_cons_self ..)
      rcases List.mem_cons.mp hm with e | e
      · exact h2 e.symm
      · exact h1 (List.mem_singleton.mp e)
    · obtain ⟨l2, ts2, vn2, rfl, rfl, p2, hk2, rfl⟩ := hP
      refine ⟨Grown, rfl, W.ev (V := IsV (.ref l)) (Ev.locS up_self) fun b hb => ?_⟩
      cases hb
      refine fun h S => (told_end (r.deeper _).units2 S hk2 hkn p2 hents).mono fun d h' rr => ⟨_, fun h2 S2 => ⟨.bool true, [(234, Grown)], [], _, _, .inl ?_, ⟨rfl, rfl⟩, rfl, S2.sublist (List.singleton_sublist.mpr (List.mem_append_right _ (List.mem_cons_self ..)))⟩, rr.2 ▸ S⟩
      rw [rr.1]
end
end Mine

open PySem PySem.W PyProof.Rows
set_option maxRecDepth 100000
namespace Mine
open PySem PySem.W PySem.Calls PyProof.Rows
theorem tab_K (w : World) : (hd.heap_273 w.params).lookup 234 = some (tabObj #[]) := by k_is
theorem look_none : ∀ l : Frag, (l.filter fun p => p.1 != 234).lookup 234 = none
  | [] => rfl
  | p :: l => by
    rw [List.filter_cons]
    split
    · rename_i hc
      rw [List.lookup_cons, look_none l, beq_false_of_ne (by intro z; rw [← z] at hc; simp at hc)]
    · exact look_none l
theorem hi_234 (w : World) : Hi (KK w) 234 := ⟨look_none _, by decide, by decide, by decide⟩
theorem law_good {prog : Program} {w : World} {A : Around} {c : ClaimW} {cl : Str → Option Addr} {mean : ExcName → Option Value} {args : List WData} {s₁ : Shared} {ls : Addr} {xs : List Int} {xvs : List Value} {p : Program} {loose : List Str} {mg mb : Str → Option Value}
    (r : Room A 12) (hh : A.handled = none) (hfr : A.frames = some []) (KX : (hd.heap_273 w.params).In s₁.heap) (T : TopRead p loose mg mb s₁.heap) (hg : s₁.gens = #[]) (hx : AllI xs xvs) (hz : xs.length ≤ 63) (hl : s₁.heap.IsList ls xvs.toArray)
    (hr : ∀ cls, c.raises args cls = false) (hp : c.post args (.bool true) args = true) :
    wpAny (model prog w) A (call (.ref 242) [.ref ls] []) (fun v s' => GoodWG c cl mean args s₁ (.ok (.ret v)) s') (fun e s' => GoodWG c cl mean args s₁ (.error e) s') s₁ := by
  have ht : s₁.heap.get? 234 = some (tabObj #[]) := KX _ _ (tab_K w)
  have W : Wd (KK w) s₁.heap := ⟨kk_in KX, _, _, _, _, T⟩
  refine ((cn_law (prog := prog) r hh hfr hx hz).cn s₁.heap W ⟨fun q hq => ?_, fun a ha => ?_, (show [(234 : Addr)].Nodup by simp), ?_⟩).out s₁ _ _ rfl fun v h' k rr => ?_
  · rw [List.mem_singleton.mp hq]
    exact ⟨_, ht, rfl⟩
  · rw [List.mem_singleton.mp ha]
    exact hi_234 w
  · obtain ⟨o, ho, rr⟩ := hl
    refine ⟨o, hideAll_get _ ho fun hm => ?_, rr⟩
    rw [List.mem_singleton.mp hm] at ho
    have : o = tabObj #[] := Option.some.inj (ho.symm.trans ht)
    rw [this] at rr
    exact nomatch rr.1
  · obtain ⟨mu', news, ⟨rfl, rfl⟩, M⟩ := rr
    obtain ⟨o', ho', ps, rfl⟩ := M.mu' (234, Grown) (List.mem_singleton.mpr rfl)
    refine ⟨.inl ⟨_, _, [], rfl, hr, ReadsW.bool true, hp, fun _ => ⟨List.nodup_nil, fun _ hm => (nomatch hm)⟩⟩, ⟨fun b o e => ?_, fun b o e => ?_⟩, rfl, AllBare.of_eq hg⟩
    · by_cases hb : b = 234
      · subst hb
        have : o = tabObj #[] := Option.some.inj (e.symm.trans ht)
        subst this
        exact .inr (.inl ⟨((codeHd_of_K W.1 (code_K w)).tab ht).isCodeTable, rfl, #[], ps, rfl, by rw [Array.empty_append]; exact ho'⟩)
      · exact .inl (M.ext b o (by simpa [ads, tabMu] using hb) e)
    · by_cases hb : b = 234
      · exact ⟨_, hb ▸ ho'⟩
      · exact ⟨o, M.ext b o (by simpa [ads, tabMu] using hb) e⟩
theorem AllI.of : ∀ {vs : List Value} {ns : List Int}, IntsAre vs ns → AllI ns vs
  | _, _, .nil => trivial
  | _, _, .cons n t h => ⟨⟨t, rfl⟩, AllI.of h⟩
theorem callerRoom : Room callerA 12 := ⟨by decide, by decide⟩
end Mine

open PySem PySem.W PyProof.Rows
set_option maxRecDepth 100000
set_option maxHeartbeats 8000000 in
theorem PySem.Challenge.cw_pm0016_01_holds : PySem.Challenge.rw_pm0016_01.Holds := by
  exact hd (by
    k_fill
    intro w s₀ s₁ mg mb G y fa o pm cd doc dV kV ho hd' hcd hD hmg hg args vals as L hpre hlay hrd hwl hlo
    have ZF := X.z_facts (K := hd.heap_273) (fun _ => rfl) y
    have KX : (hd.heap_273 w.params).In s₁.heap := InK.keeps (K := hd.heap_273) w s₀.heap s₁.heap ZF.2.1 (Laid.keeps L)
    clear ZF y
    refine Ground.open G ?_
    intro T B D TE TW
    wrow_args hpre hlay hrd hwl hlo
    clear ho hd' hcd hD
    have hfa : (.ref fa : Value) = .ref 242 := by
      have h1 : mg (PySem.Str.ofString "law") = some (.ref fa) := hmg
      have h2 := mg_of KX T.g (show nsIn (hd.heap_273 w.params) mainGlobals (PySem.Str.ofString "law") = some (some (.ref 242)) by k_is)
      rw [h1] at h2
      exact Option.some.inj h2
    clear hmg
    cases hfa
    rename_i hL _ _ _ hI _ hc _
    exact Mine.law_good Mine.callerRoom rfl rfl KX (topRead_of T) hg (Mine.AllI.of hI) (by omega) hL (fun _ => rfl) (by first | rfl | wrow_post))
