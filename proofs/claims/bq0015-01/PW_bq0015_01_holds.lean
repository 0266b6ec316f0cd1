import PyProof.Rows.All
import Wide.All
import OpenK.AllK
import Wide.FinOn
import Lean
import PySem.Challenge.RW_bq0015_01
set_option Elab.async false
namespace Mine
open PySem PySem.W PyProof.Rows PySem.Calls

/-! ## A logic that knows one thing more of the stack: no held buffer lies on it -/

def badIds : List String := ["bytearray.__contains__", "bytearray.__mod__", "bytearray.__rmod__", "_struct.pack_into.held", "bytearray.find.held"] ++ Builtin.Bytes.decodersThatHold
def okCode : Code → Bool
  | .builtin id _ => !badIds.contains id
  | _ => true
def CleanB (Γ : Ctx) : Prop := ∀ x ∈ Γ.below, okCode x.1 = true

def wpC {α : Type} (M : Model) (A : Around) (t : Sem α) (Q : α → Shared → Prop) (s : Shared) : Prop :=
  ∀ Γ p, Γ.In A → okCode Γ.code = true → CleanB Γ → Sem.wp M Γ t (fun a _ s' => Q a s') (fun _ _ _ => False) p s

def codeC (M : Model) (A : Around) (c : Code) (R : Flow → Shared → Prop) (s : Shared) : Prop :=
  ∀ Γ p, Γ.code = c → Γ.Below A → CleanB Γ → wpCode M Γ (fun r s' => ∃ f, r = .ok f ∧ R f s') p s

abbrev NoE : Value → Shared → Prop := fun _ _ => False

section
variable {α β : Type} {M : Model} {A : Around} {s : Shared}

theorem wpC_of {t : Sem α} {Q : α → Shared → Prop} (h : wpAny M A t Q NoE s) : wpC M A t Q s := fun Γ p hΓ _ _ => h Γ p hΓ

theorem wpC_mono {t : Sem α} {Q Q' : α → Shared → Prop} (h : wpC M A t Q s) (hQ : ∀ a s', Q a s' → Q' a s') : wpC M A t Q' s :=
  fun Γ p h1 h2 h3 => Sem.wp_mono M Γ t (fun a _ s' => hQ a s') (fun _ _ _ x => x) p s (h Γ p h1 h2 h3)

theorem wpC_bind {m : Sem α} {f : α → Sem β} {Q : β → Shared → Prop} (h : wpC M A m (fun a s' => wpC M A (f a) Q s') s) : wpC M A (m >>= f) Q s :=
  fun Γ p h1 h2 h3 => by
    rw [Sem.wp_bind']
    exact Sem.wp_mono M Γ m (fun a p' s' h' => h' Γ p' h1 h2 h3) (fun _ _ _ h' => h') p s (h Γ p h1 h2 h3)

theorem wpC_pure {a : α} {Q : α → Shared → Prop} (h : Q a s) : wpC M A (pure a) Q s := fun _ _ _ _ _ => h

theorem wpC_standAt {pos : Pos} {Q : Unit → Shared → Prop} (h : Q () s) : wpC M A (standAt pos) Q s := fun _ _ _ _ _ => h

theorem wpC_holding {vs : List Value} {m : Sem α} {Q : α → Shared → Prop} (h : wpC M A m Q s) : wpC M A (holding vs m) Q s :=
  fun Γ p h1 h2 h3 => by rw [Sem.wp_holding]; exact h Γ p h1 h2 h3

theorem wpC_onRaise {m : Sem α} {k : Value → Sem Unit} {Q : α → Shared → Prop} (h : wpC M A m Q s) : wpC M A (m.onRaise k) Q s :=
  fun Γ p h1 h2 h3 => by
    rw [Sem.wp_onRaise]
    exact Sem.wp_mono M Γ m (fun _ _ _ x => x) (fun _ _ _ x => x.elim) p s (h Γ p h1 h2 h3)

theorem wpC_tryCatch {m : Sem α} {k : Value → Sem α} {Q : α → Shared → Prop} (h : wpC M A m Q s) : wpC M A (tryCatch m k) Q s :=
  fun Γ p h1 h2 h3 => by
    rw [Sem.wp_tryCatch']
    exact Sem.wp_mono M Γ m (fun _ _ _ x => x) (fun _ _ _ x => x.elim) p s (h Γ p h1 h2 h3)

theorem wpC_stack {Q : List (Code × Pos) → Shared → Prop} (h : ∀ st : List (Code × Pos), (∀ x ∈ st, okCode x.1 = true) → Q st s) : wpC M A stack Q s :=
  fun Γ p _ h2 h3 => by
    show Q ((Γ.code, p) :: Γ.below) s
    refine h _ fun x hx => ?_
    rcases List.mem_cons.mp hx with rfl | hx
    · exact h2
    · exact h3 x hx

theorem codeC_mono {c : Code} {R R' : Flow → Shared → Prop} (h : codeC M A c R s) (hR : ∀ f s', R f s' → R' f s') : codeC M A c R' s :=
  fun Γ p h1 h2 h3 => wpCode_mono (fun _ _ ⟨f, e, x⟩ => ⟨f, e, hR f _ x⟩) (h Γ p h1 h2 h3)

theorem codeC_of {c : Code} {R : Flow → Shared → Prop} (h : codeAny M A c (fun r s' => ∃ f, r = .ok f ∧ R f s') s) : codeC M A c R s :=
  fun Γ p h1 h2 _ => h Γ p h1 h2

theorem codeC_of_tree {c : Code} {R : Flow → Shared → Prop} (hc : okCode c = true)
    (h : wpC M (A.under c) (M.den c) (fun fin s' => match fin with | .done f => R f s' | .again c' => c'.quiet = true ∧ codeC M A c' R s') s) : codeC M A c R s :=
  fun Γ p h1 h2 h3 => by
    rw [wpCode_iff_wp, h1]
    refine Sem.wp_mono M Γ _ (fun fin p' s' h' => ?_) (fun _ _ _ h' => h'.elim) p s (h Γ p (h1 ▸ h2.in) (by rw [h1]; exact hc) h3)
    cases fin with
    | done f => exact ⟨f, rfl, h'⟩
    | again c' => exact ⟨h'.1, h'.2 (Γ.goto c') p' rfl (h2.goto c') h3⟩

theorem codeC_loop {c : Code} {R : Flow → Shared → Prop} (hc : okCode c = true) (hq : c.quiet = true) (I : Nat → Shared → Prop)
    (turn : ∀ n s, I n s → wpC M (A.under c) (M.den c)
      (fun fin s' => match fin with | .done f => R f s' | .again c' => (c' = c ∧ ∃ m, m < n ∧ I m s') ∨ (c'.quiet = true ∧ codeC M A c' R s')) s)
    (n : Nat) (h : I n s) : codeC M A c R s := by
  induction n using Nat.strongRecOn generalizing s with
  | ind n ih =>
    refine codeC_of_tree hc (wpC_mono (turn n s h) fun fin s' hf => ?_)
    cases fin with
    | done f => exact hf
    | again c' =>
      rcases hf with ⟨rfl, m, hm, hI⟩ | hf
      · exact ⟨hq, ih m hm hI⟩
      · exact hf

theorem Clean_enter {Γ : Ctx} {c : Code} {h : Option Value} {p : Pos} (h2 : okCode Γ.code = true) (h3 : CleanB Γ) : CleanB (Γ.enter c h p) := fun x hx => by
  rcases List.mem_cons.mp hx with rfl | hx
  · exact h2
  · exact h3 x hx

theorem wpC_run {c : Code} {Q : Flow → Shared → Prop} (hc : codeC M A c Q s) : wpC M A (run c none) Q s :=
  fun Γ p h1 h2 h3 => by
    rw [Sem.wp_run]
    refine wpCode_mono ?_ (hc (Γ.enter c none p) p rfl (h1.enter c none p (by intro x; cases x)) (Clean_enter h2 h3))
    rintro r s' ⟨f, rfl, hq⟩
    exact hq

theorem wpC_runValue {c : Code} {Q : Value → Shared → Prop} (hc : codeC M A c (fun f s' => ∃ v, f = .ret v ∧ Q v s') s) : wpC M A (runValue c) Q s :=
  fun Γ p h1 h2 h3 => by
    rw [Sem.wp_runValue]
    refine wpCode_mono ?_ (hc (Γ.enter c none p) p rfl (h1.enter c none p (by intro x; cases x)) (Clean_enter h2 h3))
    rintro r s' ⟨f, rfl, v, rfl, hq⟩
    exact hq

theorem wpC_call {f : Value} {pos : List Value} {kw : List (Str × Value)} {Q : Value → Shared → Prop}
    (hc : codeC M A (.call f ⟨pos, kw⟩) (fun f s' => ∃ v, f = .ret v ∧ Q v s') s) : wpC M A (call f pos kw) Q s := wpC_runValue hc

theorem wpC_runOwn {c : Code} {env : Env} {Q : Flow → Shared → Prop} (hc : codeC M A c Q s) : wpC M A (runOwn c env) Q s := by
  unfold runOwn
  exact wpC_onRaise (wpC_run hc)

theorem caller_ok : okCode (.builtin "claim.caller" {}) = true := by decide +kernel
end
end Mine

namespace Mine
open PySem PySem.W PyProof.Rows PySem.Calls

/-! ## Expressions that give a value and turn nothing but the tokens -/
section
variable {prog : Program} {w : World} {A : Around} {env : Env} {s : Shared}

def Ev (prog : Program) (w : World) (A : Around) (env : Env) (s : Shared) (e : Expr) (P : Value → Prop) : Prop :=
  ∀ tk, wpAny (model prog w) A (eval e env) (fun v s' => P v ∧ ∃ tk', s' = { s with toks := tk' }) NoE { s with toks := tk }

abbrev IsI (i : Int) : Value → Prop := fun v => ∃ t, v = .int i t
abbrev IsR (a : Addr) : Value → Prop := fun v => v = .ref a

theorem Ev.use {e : Expr} {P : Value → Prop} {Q : Value → Shared → Prop} (h : Ev prog w A env s e P) (hQ : ∀ v tk, P v → Q v { s with toks := tk }) :
    wpAny (model prog w) A (eval e env) Q NoE s :=
  wpAny_mono (h s.toks) (fun v s' ⟨hp, tk', e⟩ => by subst e; exact hQ v tk' hp) fun _ _ x => x
theorem Ev.useAt {e : Expr} {P : Value → Prop} {Q : Value → Shared → Prop} {tk : Tok} (h : Ev prog w A env s e P) (hQ : ∀ v tk, P v → Q v { s with toks := tk }) :
    wpAny (model prog w) A (eval e env) Q NoE { s with toks := tk } :=
  wpAny_mono (h tk) (fun v s' ⟨hp, tk', e⟩ => by subst e; exact hQ v tk' hp) fun _ _ x => x

theorem Ev.mono {e : Expr} {P P' : Value → Prop} (h : Ev prog w A env s e P) (hP : ∀ v, P v → P' v) : Ev prog w A env s e P' :=
  fun tk => wpAny_mono (h tk) (fun v _ ⟨hp, r⟩ => ⟨hP v hp, r⟩) fun _ _ x => x

theorem Ev_const {i : Int} {k : Nat} {pos : Pos} : Ev prog w A env s (.Constant (.int i) k pos) (IsI i) :=
  fun _ => wpAny_Constant_int ⟨⟨_, rfl⟩, _, rfl⟩

theorem Ev_local {x : Str} {pos : Pos} {m : Str → Option Value} {v : Value} (hn : s.heap.Ns env.locals m) (hv : m x = some v)
    (hk : env.scope.kind = .function := by rfl) (hl : env.kindOf x = some .local := by rfl) (hd : (x == ("__debug__" : Str)) = false := by decide) :
    Ev prog w A env s (.Name x pos) (fun v' => v' = v) :=
  fun _ => wpAny_Name (wpAny_loadName_local hk hl hn hv ⟨rfl, _, rfl⟩) hd
theorem Ev_localI {x : Str} {pos : Pos} {m : Str → Option Value} {i : Int} (hn : s.heap.Ns env.locals m) (hv : ∃ t, m x = some (.int i t))
    (hk : env.scope.kind = .function := by rfl) (hl : env.kindOf x = some .local := by rfl) (hd : (x == ("__debug__" : Str)) = false := by decide) :
    Ev prog w A env s (.Name x pos) (IsI i) :=
  let ⟨t, h⟩ := hv; (Ev_local hn h hk hl hd).mono fun _ e => ⟨t, e⟩

theorem Ev_bin {l r : Expr} {op : Operator} {pos : Pos} {a b c : Int} (hl : Ev prog w A env s l (IsI a)) (hr : Ev prog w A env s r (IsI b))
    (hop : ∀ t u tk, wpAny (model prog w) A (binaryOp op (.int a t) (.int b u)) (fun v s' => IsI c v ∧ ∃ tk', s' = { s with toks := tk' }) NoE { s with toks := tk }) :
    Ev prog w A env s (.BinOp l op r pos) (IsI c) :=
  fun _ => wpAny_BinOp (hl.useAt fun v _ ⟨t, e⟩ => hr.useAt fun v' tk' ⟨u, e'⟩ => by subst e; subst e'; exact hop t u tk')

variable {l r : Expr} {pos : Pos} {a b : Int}
theorem Ev_add (hl : Ev prog w A env s l (IsI a)) (hr : Ev prog w A env s r (IsI b)) : Ev prog w A env s (.BinOp l .Add r pos) (IsI (a + b)) :=
  Ev_bin hl hr fun _ _ _ => PyProof.Rows.add_int ⟨⟨_, rfl⟩, _, rfl⟩
theorem Ev_sub (hl : Ev prog w A env s l (IsI a)) (hr : Ev prog w A env s r (IsI b)) : Ev prog w A env s (.BinOp l .Sub r pos) (IsI (a - b)) :=
  Ev_bin hl hr fun _ _ _ => PyProof.Rows.sub_int ⟨⟨_, rfl⟩, _, rfl⟩
theorem Ev_mul (hl : Ev prog w A env s l (IsI a)) (hr : Ev prog w A env s r (IsI b)) (hm : IntMulOk a b) : Ev prog w A env s (.BinOp l .Mult r pos) (IsI (a * b)) :=
  Ev_bin hl hr fun _ _ _ => PyProof.Rows.mul_int ⟨⟨_, rfl⟩, _, rfl⟩ hm
theorem Ev_fdiv (hl : Ev prog w A env s l (IsI a)) (hr : Ev prog w A env s r (IsI b)) (hb : b ≠ 0) (hp : Builtin.divisionGoesByPylong a b = false) : Ev prog w A env s (.BinOp l .FloorDiv r pos) (IsI (a.fdiv b)) :=
  Ev_bin hl hr fun _ _ _ => PyProof.Rows.floordiv_int hb ⟨⟨_, rfl⟩, _, rfl⟩ (.inl hp)
theorem Ev_mod (hl : Ev prog w A env s l (IsI a)) (hr : Ev prog w A env s r (IsI b)) (hb : b ≠ 0) : Ev prog w A env s (.BinOp l .Mod r pos) (IsI (a.fmod b)) :=
  Ev_bin hl hr fun _ _ _ => PyProof.Rows.mod_int' hb ⟨⟨_, rfl⟩, _, rfl⟩
theorem Ev_and (hl : Ev prog w A env s l (IsI a)) (hr : Ev prog w A env s r (IsI b)) : Ev prog w A env s (.BinOp l .BitAnd r pos) (IsI (Builtin.bitAnd a b)) :=
  Ev_bin hl hr fun _ _ _ => PyProof.Rows.and_int ⟨⟨_, rfl⟩, _, rfl⟩
theorem Ev_pow (hl : Ev prog w A env s l (IsI a)) (hr : Ev prog w A env s r (IsI b)) (hn : 0 ≤ b) (hsz : (Builtin.Int.intBits a : Int) * b ≤ 2 ^ 27) : Ev prog w A env s (.BinOp l .Pow r pos) (IsI (a ^ b.toNat)) :=
  Ev_bin hl hr fun _ _ _ => PyProof.Rows.pow_int hn hsz ⟨⟨_, rfl⟩, _, rfl⟩
end

/-! ## Items -/
abbrev lst (vs : List Value) (n : Nat) : Obj := { cls := .type "list", data := .seq vs.toArray n }
abbrev ba (ns : List Int) : Obj := { cls := .type "bytearray", data := .bytearray (byteArr ns) }
def Octets (ns : List Int) : Prop := ∀ n ∈ ns, 0 ≤ n ∧ n < 256

section
variable {prog : Program} {w : World} {A : Around} {env : Env} {s : Shared}
theorem Ev_item {o i : Expr} {pos : Pos} {a : Addr} {vs : List Value} {n : Nat} {k : Int} {v : Value} {P : Value → Prop} (ho : Ev prog w A env s o (IsR a)) (hi : Ev prog w A env s i (IsI k))
    (hl : s.heap.get? a = some (lst vs n)) (h0 : 0 ≤ k) (hk : k < 2 ^ 63) (hx : vs[k.toNat]? = some v) (hP : P v)
    (hs : ∀ u, subscripted i false (.ref a) (.int k u) = operate [.ref a, .int k u] (getItem (.ref a) (.int k u)) := by intro _; with_unfolding_all rfl) :
    Ev prog w A env s (.Subscript o i pos) P := fun _ =>
  Subscript_ (ho.useAt fun vo _ e => hi.useAt fun vi _ ⟨u, e'⟩ => by
    subst e; subst e'
    have hl' : s.heap.IsList a vs.toArray := ⟨_, hl, rfl, n, rfl⟩
    exact tail_any (T := "list") (s := { s with toks := _ }) ⟨_, hl, rfl⟩ slot_list_getitem.lookup (wpAny_getItem_list (s := { s with toks := _ }) hl' h0 hk (by simpa using hx) ⟨hP, _, rfl⟩) (hs u))
end
end Mine

set_option maxRecDepth 100000
namespace Mine
open PySem PySem.W PyProof.Rows PySem.Calls
namespace FA
theorem owner_ba : Manifest.owners.lookup (String.ofList ['y', 'a', 'r', 'r', 'a', 'e', 't', 'y', 'b'].reverse) = some Manifest.sig_bytearray := by kernel_rfl
theorem slot_len : Slot "bytearray" "__len__" "bytearray.__len__" :=
  .of (owner := "bytearray") (n := "__len__") (by rw [typeLookup_type, builtinLookup_eq_fast]; kernel_rfl) (by decide +kernel) (by decide +kernel) (by decide +kernel)
    (by first | exact .inl (by decide +kernel) | exact .inr (by decide +kernel)) (by rw [isSubtype_type]; kernel_rfl)
theorem entry_len : entryFor table "bytearray.__len__" = some Builtin.«bytearray.__len__» := entryFor_of_tree (by kernel_rfl)
theorem args_len (a : Value) : argsOk "bytearray.__len__" ⟨[a], []⟩ := by
  unfold argsOk; rw [signature?_of (id := "bytearray.__len__") (n := ['_', '_', 'n', 'e', 'l', '_', '_']) (o := ['y', 'a', 'r', 'r', 'a', 'e', 't', 'y', 'b']) (by kernel_rfl) owner_ba]; kernel_rfl
theorem slot_getitem : Slot "bytearray" "__getitem__" "bytearray.__getitem__" :=
  .of (owner := "bytearray") (n := "__getitem__") (by rw [typeLookup_type, builtinLookup_eq_fast]; kernel_rfl) (by decide +kernel) (by decide +kernel) (by decide +kernel)
    (by first | exact .inl (by decide +kernel) | exact .inr (by decide +kernel)) (by rw [isSubtype_type]; kernel_rfl)
theorem entry_getitem : entryFor table "bytearray.__getitem__" = some Builtin.«bytearray.__getitem__» := entryFor_of_tree (by kernel_rfl)
theorem args_getitem (a b : Value) : argsOk "bytearray.__getitem__" ⟨[a, b], []⟩ := by
  unfold argsOk; rw [signature?_of (id := "bytearray.__getitem__") (n := ['_', '_', 'm', 'e', 't', 'i', 't', 'e', 'g', '_', '_']) (o := ['y', 'a', 'r', 'r', 'a', 'e', 't', 'y', 'b']) (by kernel_rfl) owner_ba]; kernel_rfl
theorem slot_setitem : Slot "bytearray" "__setitem__" "bytearray.__setitem__" :=
  .of (owner := "bytearray") (n := "__setitem__") (by rw [typeLookup_type, builtinLookup_eq_fast]; kernel_rfl) (by decide +kernel) (by decide +kernel) (by decide +kernel)
    (by first | exact .inl (by decide +kernel) | exact .inr (by decide +kernel)) (by rw [isSubtype_type]; kernel_rfl)
theorem entry_setitem : entryFor table "bytearray.__setitem__" = some Builtin.«bytearray.__setitem__» := entryFor_of_tree (by kernel_rfl)
theorem args_setitem (a b c : Value) : argsOk "bytearray.__setitem__" ⟨[a, b, c], []⟩ := by
  unfold argsOk; rw [signature?_of (id := "bytearray.__setitem__") (n := ['_', '_', 'm', 'e', 't', 'i', 't', 'e', 's', '_', '_']) (o := ['y', 'a', 'r', 'r', 'a', 'e', 't', 'y', 'b']) (by kernel_rfl) owner_ba]; kernel_rfl
theorem slot_init : Slot "bytearray" "__init__" "bytearray.__init__" :=
  .of (owner := "bytearray") (n := "__init__") (by rw [typeLookup_type, builtinLookup_eq_fast]; kernel_rfl) (by decide +kernel) (by decide +kernel) (by decide +kernel)
    (by first | exact .inl (by decide +kernel) | exact .inr (by decide +kernel)) (by rw [isSubtype_type]; kernel_rfl)
theorem entry_init : entryFor table "bytearray.__init__" = some Builtin.«bytearray.__init__» := entryFor_of_tree (by kernel_rfl)
theorem args_init (a b : Value) : argsOk "bytearray.__init__" ⟨[a, b], []⟩ := by
  unfold argsOk; rw [signature?_of (id := "bytearray.__init__") (n := ['_', '_', 't', 'i', 'n', 'i', '_', '_']) (o := ['y', 'a', 'r', 'r', 'a', 'e', 't', 'y', 'b']) (by kernel_rfl) owner_ba]; kernel_rfl
theorem mro_ba : mroOf (.type "bytearray") = pure [.type "bytearray", .type "object"] := by rw [mroOf_type]; kernel_rfl
theorem lookup_new : typeLookup (.type "bytearray") "__new__" = pure (some (.builtin "bytearray.__new__")) := by rw [typeLookup_type, builtinLookup_eq_fast]; kernel_rfl
theorem called : TypeCalled "bytearray" "bytearray.__new__" "bytearray.__init__" :=
  ⟨by decide +kernel, by decide +kernel, ⟨_, _, mro_ba⟩, madeBy_type mro_ba lookup_new (by decide +kernel), by decide +kernel, by rw [isSubtype_type]; kernel_rfl, slot_init⟩
theorem typeCall (a : Value) : checkTypeCall "bytearray" ⟨[a], []⟩ = pure () := by kernel_rfl
theorem newCall (a : Value) : checkBuiltinCall "bytearray.__new__" ⟨[.type "bytearray", a], []⟩ = pure () := by kernel_rfl
theorem entry_new : entryFor table "bytearray.__new__" = some Builtin.«list.__new__» := entryFor_alias (id' := "list.__new__") (by kernel_rfl) (by first | rfl | decide +kernel) (by decide +kernel) (by kernel_rfl)
theorem plain_new : plainId "bytearray.__new__" = true := by decide +kernel
theorem plain_init : plainId "bytearray.__init__" = true := by decide +kernel
set_option maxRecDepth 1000000 in
set_option maxHeartbeats 4000000 in
theorem owner_new : ("bytearray.__new__".splitOn ".__new__").headD "" = "bytearray" := by simp +decide [String.splitOn, String.splitOnAux]
theorem sub_self : isSubtype (.type "bytearray") (.type "bytearray") = pure true := by rw [isSubtype_type]; kernel_rfl
theorem initBind (v : Value) : Builtin.Bytes.bindOptional "bytearray.__init__" "bytearray" ["source", "encoding", "errors"] [v] [] = pure [some v, none, none] := by kernel_rfl
end FA
end Mine

set_option maxRecDepth 100000
namespace Mine
open PySem PySem.W PyProof.Rows PySem.Calls

section
variable {prog : Program} {w : World} {A : Around} {s : Shared}

theorem c_if_false {α : Type} {M : Model} {c : Bool} {a b : Sem α} {Q : α → Shared → Prop} (hc : c = false) (h : wpC M A b Q s) : wpC M A (if c = true then a else b) Q s := by
  subst hc; exact h
theorem c_if_true {α : Type} {M : Model} {c : Bool} {a b : Sem α} {Q : α → Shared → Prop} (hc : c = true) (h : wpC M A a Q s) : wpC M A (if c = true then a else b) Q s := by
  subst hc; exact h
theorem wpC_of_eq {α : Type} {M : Model} {t : Sem α} {a : α} {Q : α → Shared → Prop} (h : t = pure a) (hQ : Q a s) : wpC M A t Q s := h ▸ wpC_pure hQ

theorem codeC_call_builtin {id : String} {args : Args} {b : Builtin} {R : Flow → Shared → Prop} (hq : plainId id = true) (hok : okCode (.builtin id args) = true) (hb : entryFor table id = some b)
    (h : wpAny (model prog w) A.in1 (checkBuiltinCall id args) (fun _ s₁ => wpC (model prog w) A.in1 (b args)
      (fun fin s' => match fin with | .done f => R f s' | .again c' => c'.quiet = true ∧ codeC (model prog w) A c' R s') s₁) NoE s) : codeC (model prog w) A (.call (.builtin id) args) R s := by
  refine codeC_of_tree rfl ?_
  show wpC _ A.in1 (do checkBuiltinCall id args; again (.builtin id args)) _ s
  refine wpC_bind (wpC_mono (wpC_of h) fun _ s₁ h₁ => wpC_pure ⟨plainId_quiet hq args, codeC_of_tree hok ?_⟩)
  rw [Around.under_plainId hq args]
  show wpC _ _ (match entryFor table id with | some b => b args | none => unsupported ((withoutEnding? id "#data").getD id)) _ s₁
  rw [hb]; exact h₁

theorem codeC_builtin {id : String} {args : Args} {b : Builtin} {R : Flow → Shared → Prop} (hok : okCode (.builtin id args) = true) (hb : entryFor table id = some b)
    (h : wpC (model prog w) (A.under (.builtin id args)) (b args)
      (fun fin s' => match fin with | .done f => R f s' | .again c' => c'.quiet = true ∧ codeC (model prog w) A c' R s') s) :
    codeC (model prog w) A (.builtin id args) R s := by
  refine codeC_of_tree hok ?_
  show wpC _ _ (match entryFor table id with | some b => b args | none => unsupported ((withoutEnding? id "#data").getD id)) _ s
  rw [hb]; exact h

theorem okB {id : String} {args : Args} (h : badIds.contains id = false) : okCode (.builtin id args) = true := by simp only [okCode, h, Bool.not_false]

theorem any_false_of {α : Type} {f : α → Bool} {l : List α} (h : ∀ x ∈ l, f x = false) : l.any f = false := by
  rw [List.any_eq_false]; intro x hx; rw [h x hx]; decide

theorem exported_C {self : Value} {Q : Bool → Shared → Prop} (hQ : Q false s) : wpC (model prog w) A (Builtin.Bytes.exported self) Q s := by
  unfold Builtin.Bytes.exported
  refine wpC_bind (wpC_stack fun st hst => ?_)
  refine wpC_of_eq (a := false) (congrArg pure (any_false_of fun x hx => ?_)) hQ
  have hc := hst x hx
  have key : ∀ id args, x.1 = .builtin id args → badIds.contains id = false := fun id args e => by
    rw [e] at hc; simpa [okCode] using hc
  split <;> first | (rename_i e; have := key _ _ rfl; exact absurd this (by decide +kernel)) | skip
  · rename_i id v _ _ _ _ _ _ _ _
    have := key _ _ rfl
    simp only [badIds, List.contains_eq_mem, List.mem_append, decide_eq_false_iff_not, not_or] at this
    have h2 : Builtin.Bytes.decodersThatHold.contains id = false := by
      simpa [List.contains_eq_mem] using this.2
    rw [h2]; simp
  · rfl

/-! the maker, and what it asks of the class -/
theorem code_new (a : Value) {R : Flow → Shared → Prop}
    (h : R (.ret (.ref s.heap.objs.size)) { s with heap := s.heap.push { cls := .type "bytearray", data := .bytearray #[] } }) :
    codeAny (model prog w) A (.call (.builtin "bytearray.__new__") ⟨[.type "bytearray", a], []⟩) (fun r s' => ∃ f, r = .ok f ∧ R f s') s := by
  refine codeAny_of_tree ?_
  show wpAny _ A.in1 (do checkBuiltinCall "bytearray.__new__" ⟨[.type "bytearray", a], []⟩; again (.builtin "bytearray.__new__" ⟨[.type "bytearray", a], []⟩)) _ _ s
  refine wpAny_bind (wpAny_of_eq (FA.newCall a) (wpAny_pure ⟨plainId_quiet FA.plain_new _, codeAny_builtin_stack FA.entry_new rfl fun p st => ?_⟩))
  rw [Around.under_plainId FA.plain_new _]
  have hsub := FA.sub_self
  have hown := FA.owner_new
  obtain ⟨hp, g, d, tk, os⟩ := s
  simp only [hown]
  wp_walk
  exact ⟨_, rfl, h⟩

theorem callC_type {Q : Value → Shared → Prop} {a : Value}
    (hinit : ∀ r, r = s.heap.objs.size → wpC (model prog w) A.in1.in1 (Builtin.«bytearray.__init__» ⟨[.ref r, a], []⟩)
      (fun fin s' => fin = .done (.ret .none) ∧ Q (.ref r) s') { s with heap := s.heap.push { cls := .type "bytearray", data := .bytearray #[] } }) :
    wpC (model prog w) A (call (.type "bytearray") [a]) Q s := by
  have ft := FA.called
  obtain ⟨c, tl, hmro⟩ := ft.mro
  refine wpC_call (codeC_of_tree rfl ?_)
  show wpC _ _ (callAny (.type "bytearray") _) _ _
  refine wpC_pure ⟨Code.quiet_builtin _ (by decide +kernel), codeC_builtin (okB (by decide +kernel)) F.entry_type_call ?_⟩
  rw [Around.under_plain (weight_type_call_type "bytearray" [a] []) rfl]
  unfold Builtin.«type.__call__»
  dsimp only
  refine c_if_false (by decide) ?_
  refine c_if_false ft.canCreate ?_
  refine wpC_bind (wpC_of_eq (FA.typeCall a) ?_)
  refine wpC_bind (wpC_of_eq hmro ?_)
  refine c_if_false rfl ?_
  refine wpC_bind (wpC_of_eq ft.made ?_)
  refine wpC_bind (wpC_pure ?_)
  refine wpC_bind (wpC_holding (wpC_call (codeC_of (code_new a ⟨_, rfl, ?_⟩))))
  have hT : ({ s with heap := s.heap.push { cls := .type "bytearray", data := .bytearray #[] } } : Shared).TypeIs (.ref s.heap.objs.size) "bytearray" := ⟨_, Heap.get?_push_size _ rfl, rfl⟩
  refine wpC_bind (wpC_of (wpAny_isInstance hT FA.sub_self ?_))
  refine c_if_false rfl ?_
  refine wpC_bind (wpC_holding ?_)
  unfold callSpecial?
  refine wpC_bind (wpC_of (wpAny_specialOf hT FA.slot_init.lookup ?_))
  refine wpC_holding ?_
  refine wpC_bind (wpC_of_eq (FA.slot_init.bind _) ?_)
  refine wpC_bind (wpC_call (codeC_call_builtin FA.plain_init (okB (by decide +kernel)) FA.entry_init (FA.slot_init.check _ _ _ _ _ _ _ _ hT (FA.args_init _ _) ?_)))
  refine wpC_mono (hinit _ rfl) ?_
  rintro fin s' ⟨rfl, hq⟩
  refine ⟨_, rfl, wpC_pure ?_⟩
  dsimp only
  refine c_if_false rfl ?_
  exact wpC_pure ⟨_, rfl, hq⟩
end
end Mine

set_option maxRecDepth 100000
namespace Mine
open PySem PySem.W PyProof.Rows PySem.Calls
namespace FA
theorem look_release : typeLookup (.type "bytearray") "__release_buffer__" = pure (some (.builtin "bytearray.__release_buffer__")) := by rw [typeLookup_type, builtinLookup_eq_fast]; kernel_rfl
theorem look_buffer : typeLookup (.type "bytearray") "__buffer__" = pure (some (.builtin "bytearray.__buffer__")) := by rw [typeLookup_type, builtinLookup_eq_fast]; kernel_rfl
theorem look_index : typeLookup (.type "bytearray") "__index__" = pure none := by rw [typeLookup_type, builtinLookup_eq_fast]; kernel_rfl
theorem end_release : ("bytearray.__release_buffer__".endsWith ("." ++ "__release_buffer__")) = true := by decide +kernel
theorem drop_release : ("bytearray.__release_buffer__".dropRight ("__release_buffer__".length + 1)) = "bytearray" := by decide +kernel
theorem end_buffer : ("bytearray.__buffer__".endsWith ("." ++ "__buffer__")) = true := by decide +kernel
theorem drop_buffer : ("bytearray.__buffer__".dropRight ("__buffer__".length + 1)) = "bytearray" := by decide +kernel
end FA

section
variable {prog : Program} {w : World} {A : Around} {E : Value → Shared → Prop} {s : Shared}
theorem ba_own {r : Addr} {Q : Bool → Shared → Prop} (hT : s.TypeIs (.ref r) "bytearray") (hQ : Q false s) : wpAny (model prog w) A (Builtin.Bytes.ownRelease (.ref r)) Q E s := by
  unfold Builtin.Bytes.ownRelease Builtin.Bytes.slotIsOwn
  refine wpAny_bind (wpAny_bind (wpAny_specialOf hT FA.look_release ?_))
  dsimp only
  refine bm_if_false (by rw [FA.end_release]; rfl) ?_
  rw [FA.drop_release]
  refine wpAny_isInstance hT FA.sub_self ?_
  exact wpAny_pure hQ
theorem ba_bufferOwn {r : Addr} {Q : Bool → Shared → Prop} (hT : s.TypeIs (.ref r) "bytearray") (hQ : Q true s) : wpAny (model prog w) A (Builtin.Bytes.slotIsOwn (.ref r) "__buffer__") Q E s := by
  unfold Builtin.Bytes.slotIsOwn
  refine wpAny_bind (wpAny_specialOf hT FA.look_buffer ?_)
  dsimp only
  refine bm_if_false (by rw [FA.end_buffer]; rfl) ?_
  rw [FA.drop_buffer]
  exact wpAny_isInstance hT FA.sub_self hQ

theorem ba_write {r : Addr} {b : Array UInt8} {f : Array UInt8 → Array UInt8} {Q : Unit → Shared → Prop} (hr : s.heap.get? r = some { cls := .type "bytearray", data := .bytearray b }) (hz : (f b).size ≤ sizeLine)
    (hQ : ∀ h', h'.get? r = some { cls := .type "bytearray", data := .bytearray (f b) } → Heap.SameBut r s.heap h' → Q () { s with heap := h' }) : wpAny (model prog w) A (Builtin.Bytes.write (.ref r) f) Q E s := by
  show wpAny _ _ (updateBytearray r f) _ _ _
  unfold updateBytearray
  refine wpAny_bind (wpAny_load hr ?_)
  show wpAny _ _ (update r (Obj.mapBytearray f) >>= fun _ => lookBehind r) _ _ _
  refine wpAny_bind (wpAny_update hr ?_)
  have hS₂ : (s.heap.update r (Obj.mapBytearray f)).get? r = some { cls := .type "bytearray", data := .bytearray (f b) } := Heap.get?_update_self (Obj.mapBytearray f) hr rfl
  refine wpAny_lookBehind hS₂ ?_ (hQ _ hS₂ (Heap.SameBut.update ..))
  show (if (f b).size > sizeLine then some "bytearray:memory" else none) = none
  rw [if_neg (Nat.not_lt.mpr hz)]

theorem ba_payload {r : Addr} {b : Array UInt8} {Q : Array UInt8 → Shared → Prop} (hr : s.heap.get? r = some { cls := .type "bytearray", data := .bytearray b }) (hQ : Q b s) : wpAny (model prog w) A (Builtin.Bytes.payload (.ref r)) Q E s := by
  unfold Builtin.Bytes.payload Builtin.Bytes.payload?
  exact wpAny_bind (wpAny_bind (wpAny_load hr (wpAny_pure (wpAny_pure hQ))))

theorem takeWhile_self {α : Type} {p : α → Bool} {l : List α} (h : ∀ x ∈ l, p x = true) : l.takeWhile p = l := by
  induction l with
  | nil => rfl
  | cons x l ih => rw [List.takeWhile_cons, if_pos (h x (.head _)), ih fun y hy => h y (.tail _ hy)]
theorem filterMap_ints {β : Type} {f : Value → Option β} {g : Int → β} {vs : List Value} {ns : List Int} (hi : IntsAre vs ns) (hf : ∀ n t, f (.int n t) = some (g n)) : vs.filterMap f = ns.map g := by
  induction hi with
  | nil => rfl
  | cons _ ih => rename_i ih; simp [hf, ih]

theorem init_ba {r a : Addr} {b : Array UInt8} {R : Fin → Shared → Prop} (hr : s.heap.get? r = some { cls := .type "bytearray", data := .bytearray #[] })
    (ho : s.heap.get? a = some { cls := .type "bytearray", data := .bytearray b }) (hra : a ≠ r) (hz : b.size ≤ sizeLine)
    (h : ∀ h', h'.get? r = some { cls := .type "bytearray", data := .bytearray b } → Heap.SameBut r s.heap h' → R (.done (.ret .none)) { s with heap := h' }) :
    wpC (model prog w) A (Builtin.«bytearray.__init__» ⟨[.ref r, .ref a], []⟩) R s := by
  have hTr : s.TypeIs (.ref r) "bytearray" := ⟨_, hr, rfl⟩
  unfold Builtin.«bytearray.__init__»
  dsimp only
  refine wpC_bind (wpC_of (ba_own hTr ?_))
  refine c_if_false rfl ?_
  refine wpC_bind (wpC_of_eq (FA.initBind _) ?_)
  dsimp only
  refine wpC_bind (wpC_of_eq (a := ()) rfl ?_)
  refine wpC_bind (wpC_of_eq (a := ()) rfl ?_)
  refine wpC_bind ?_
  refine wpC_mono (Q := fun b s' => b = false ∧ s' = s) ?_ ?_
  · unfold orM
    refine wpC_bind (exported_C ?_)
    show wpC _ _ (Builtin.Bytes.exportsOf (.ref r) >>= fun n => pure (decide (n > 0))) _ _
    refine wpC_bind (wpC_of ?_)
    unfold Builtin.Bytes.exportsOf
    exact wpAny_bind (wpAny_load hr (wpAny_pure (wpC_pure ⟨rfl, rfl⟩)))
  rintro b s' ⟨rfl, rfl⟩
  refine c_if_false rfl ?_
  refine wpC_bind (wpC_of (ba_write hr (Nat.zero_le _) fun h' hr' hs' => ?_))
  have ho' : h'.get? a = some { cls := .type "bytearray", data := .bytearray b } := (hs'.2 a hra).trans ho
  have hTa : ({ s' with heap := h' } : Shared).TypeIs (.ref a) "bytearray" := ⟨_, ho', rfl⟩
  refine wpC_bind (wpC_of ?_)
  show wpAny _ _ (load a >>= _) _ _ _
  refine wpAny_bind (wpAny_load ho' (wpAny_pure ?_))
  refine wpC_bind (wpC_of_eq (a := ()) rfl ?_)
  refine wpC_bind (wpC_of (wpAny_specialOf hTa FA.look_index ?_))
  refine c_if_false rfl ?_
  refine wpC_bind (wpC_of ?_)
  unfold Builtin.Bytes.buffer?
  refine wpAny_bind (wpAny_specialOf hTa FA.look_buffer ?_)
  dsimp only
  refine wpAny_bind (ba_bufferOwn hTa ?_)
  refine bm_if_false rfl ?_
  refine wpAny_bind (wpAny_specialOf hTa FA.look_buffer ?_)
  refine wpAny_bind (ba_own hTa ?_)
  refine bm_if_false rfl ?_
  refine wpAny_bind (ba_payload ho' (wpAny_pure ?_))
  refine wpC_bind (wpC_of (wpAny_rule ?_))
  refine wpC_bind (wpC_of (ba_write hr' hz fun h₂ hr₂ hs₂ => ?_))
  exact wpC_pure (h h₂ hr₂ (hs'.trans hs₂))

theorem init_list {r a : Addr} {vs : List Value} {ns : List Int} {n : Nat} {R : Fin → Shared → Prop} (hr : s.heap.get? r = some { cls := .type "bytearray", data := .bytearray #[] })
    (ho : s.heap.get? a = some (lst vs n)) (hi : IntsAre vs ns) (hoct : Octets ns) (hra : a ≠ r) (hz : ns.length ≤ sizeLine)
    (h : ∀ h', h'.get? r = some (ba ns) → Heap.SameBut r s.heap h' → R (.done (.ret .none)) { s with heap := h' }) :
    wpC (model prog w) A (Builtin.«bytearray.__init__» ⟨[.ref r, .ref a], []⟩) R s := by
  have hTr : s.TypeIs (.ref r) "bytearray" := ⟨_, hr, rfl⟩
  unfold Builtin.«bytearray.__init__»
  dsimp only
  refine wpC_bind (wpC_of (ba_own hTr ?_))
  refine c_if_false rfl ?_
  refine wpC_bind (wpC_of_eq (FA.initBind _) ?_)
  dsimp only
  refine wpC_bind (wpC_of_eq (a := ()) rfl ?_)
  refine wpC_bind (wpC_of_eq (a := ()) rfl ?_)
  refine wpC_bind ?_
  refine wpC_mono (Q := fun b s' => b = false ∧ s' = s) ?_ ?_
  · unfold orM
    refine wpC_bind (exported_C ?_)
    show wpC _ _ (Builtin.Bytes.exportsOf (.ref r) >>= fun n => pure (decide (n > 0))) _ _
    refine wpC_bind (wpC_of ?_)
    unfold Builtin.Bytes.exportsOf
    exact wpAny_bind (wpAny_load hr (wpAny_pure (wpC_pure ⟨rfl, rfl⟩)))
  rintro b s' ⟨rfl, rfl⟩
  refine c_if_false rfl ?_
  refine wpC_bind (wpC_of (ba_write hr (Nat.zero_le _) fun h' hr' hs' => ?_))
  have ho' : h'.get? a = some (lst vs n) := (hs'.2 a hra).trans ho
  have hTa : ({ s' with heap := h' } : Shared).TypeIs (.ref a) "list" := ⟨_, ho', rfl⟩
  refine wpC_bind (wpC_of ?_)
  show wpAny _ _ (load a >>= _) _ _ _
  refine wpAny_bind (wpAny_load ho' (wpAny_pure ?_))
  refine wpC_bind (wpC_of_eq (a := ()) rfl ?_)
  refine wpC_bind (wpC_of (wpAny_specialOf hTa F.bm_no_index ?_))
  refine c_if_false rfl ?_
  refine wpC_bind (wpC_of ?_)
  unfold Builtin.Bytes.buffer?
  refine wpAny_bind (wpAny_specialOf hTa F.bm_no_buffer ?_)
  dsimp only
  refine wpAny_bind (wpAny_specialOf hTa F.bm_no_buffer ?_)
  refine wpAny_pure ?_
  dsimp only
  refine wpC_bind (wpC_of (wpAny_typeOf hTa ?_))
  refine c_if_true (by decide) ?_
  refine wpC_bind (wpC_of ?_)
  show wpAny _ _ (load a >>= _) _ _ _
  refine wpAny_bind (wpAny_load ho' (wpAny_pure ?_))
  dsimp only
  rw [takeWhile_self (l := vs) (fun x hx => ?_)]
  · rw [show vs.toArray[vs.length]? = none by simp]
    dsimp only
    rw [filterMap_ints (g := fun n => n.toNat.toUInt8) hi (fun n t => rfl)]
    refine wpC_bind (wpC_of (wpAny_rule ?_))
    refine wpC_bind (wpC_of (ba_write hr' (by simpa using hz) fun h₂ hr₂ hs₂ => ?_))
    exact wpC_pure (h h₂ hr₂ (hs'.trans hs₂))
  · obtain ⟨k, hk, rfl⟩ := List.getElem_of_mem hx
    obtain ⟨m, t, e, hm⟩ := IntsAre.at hi k _ (List.getElem?_eq_getElem hk)
    rw [e]
    have := hoct m (List.mem_of_getElem? hm)
    simp only [Bool.and_eq_true, decide_eq_true_eq]
    exact this

/-- bytearray(line), of a list of octets or of a bytearray -/
def LineAt (h : Heap) (a : Addr) (ns : List Int) : Prop := h.get? a = some (ba ns) ∨ ∃ vs n, h.get? a = some (lst vs n) ∧ IntsAre vs ns

theorem call_bytearray {a : Addr} {ns : List Int} {Q : Value → Shared → Prop} (hl : LineAt s.heap a ns) (hoct : Octets ns) (hz : ns.length ≤ sizeLine)
    (hQ : ∀ h', h'.get? s.heap.objs.size = some (ba ns) → (∀ b o, s.heap.get? b = some o → h'.get? b = some o) → Q (.ref s.heap.objs.size) { s with heap := h' }) :
    wpC (model prog w) A (call (.type "bytearray") [.ref a]) Q s := by
  have hlt : a < s.heap.objs.size := by
    rcases hl with e | ⟨_, _, e, _⟩ <;> exact Heap.lt_size e
  have fin : ∀ h', h'.get? s.heap.objs.size = some (ba ns) → Heap.SameBut s.heap.objs.size (s.heap.push { cls := .type "bytearray", data := .bytearray #[] }) h' → Q (.ref s.heap.objs.size) { s with heap := h' } :=
    fun h' hr hs => hQ h' hr fun b o e => hs.extBut b o (Nat.ne_of_lt (Heap.lt_size e)) (Heap.get?_push_of_some _ e)
  refine callC_type fun r hr => ?_
  subst hr
  rcases hl with e | ⟨vs, n, e, hi⟩
  · exact init_ba (Heap.get?_push_size _ rfl) (Heap.get?_push_of_some _ e) (Nat.ne_of_lt hlt) (by rw [byteArr_size]; exact hz) fun h' hr hs => ⟨rfl, fin h' hr hs⟩
  · exact init_list (Heap.get?_push_size _ rfl) (Heap.get?_push_of_some _ e) hi hoct (Nat.ne_of_lt hlt) hz fun h' hr hs => ⟨rfl, fin h' hr hs⟩
end
end Mine

set_option maxRecDepth 100000
namespace Mine
open PySem PySem.W PyProof.Rows PySem.Calls

theorem byteArr_getElem? (ns : List Int) (i : Nat) : (byteArr ns)[i]? = (ns[i]?).map fun n => n.toNat.toUInt8 := by
  simp [byteArr]
theorem octet_back {n : Int} (h0 : 0 ≤ n) (h1 : n < 256) : ((n.toNat.toUInt8).toNat : Int) = n := by
  have : n.toNat < 256 := by omega
  have e : (n.toNat.toUInt8).toNat = n.toNat % 256 := by simp [Nat.toUInt8]
  rw [e]
  omega
theorem byteArr_set (ns : List Int) (i : Nat) (v : Int) : (byteArr ns).setIfInBounds i v.toNat.toUInt8 = byteArr (ns.set i v) := by
  simp [byteArr, List.map_set]

section
variable {prog : Program} {w : World} {A : Around} {E : Value → Shared → Prop} {s : Shared}
theorem ba_len {r : Addr} {ns : List Int} {Q : Value → Shared → Prop} (hr : s.heap.get? r = some (ba ns)) (hfit : (ns.length : Int) < 2 ^ 63)
    (h : Q (.int ns.length (s.toks + 1)) { s with toks := s.toks + 1 + 1 }) : wpAny (model prog w) A (call (.builtin "len") [.ref r]) Q E s := by
  have hT : s.TypeIs (.ref r) "bytearray" := ⟨_, hr, rfl⟩
  refine call_function_entry kind_len plain_len entry_len (args_len1 _) ?_
  unfold Builtin.«len»
  refine wpAny_bind (m := oneArg "len" _) (wpAny_pure ?_)
  refine wpAny_bind (m := callSpecial? (.ref r) (Str.ofString "__len__")) (wpAny_callSpecial?_slot (name := Str.ofString "__len__") hT FA.slot_len
    (wpAny_call_entry FA.slot_len hT FA.entry_len ?_ (FA.args_len _)))
  show wpAny _ _ (Builtin.Bytes.payload (.ref r) >>= fun b => retInt b.size) _ _ s
  refine wpAny_bind (ba_payload hr (wpAny_bind (wpAny_mkInt (wpAny_pure ⟨_, rfl, ?_⟩))))
  refine wpAny_bind (wpAny_holding (wpAny_pure ?_))
  refine wpAny_bind (wpAny_letGo ?_)
  rw [byteArr_size]
  show wpAny _ _ (if ((ns.length : Nat) : Int) < 0 then _ else _) _ _ _
  rw [if_neg (by omega)]
  show wpAny _ _ (if ((ns.length : Nat) : Int) ≥ 2 ^ 63 then _ else _) _ _ _
  rw [if_neg (by omega)]
  exact wpAny_bind (wpAny_mkInt (wpAny_pure ⟨_, rfl, h⟩))

theorem ba_subscript {k : Int} {t : Tok} {Q : Option Int → Shared → Prop} (h0 : 0 ≤ k) (hk : k < 2 ^ 63) (h : Q (some k) s) : wpAny (model prog w) A (Builtin.Bytes.subscript? (.int k t)) Q E s := by
  unfold Builtin.Bytes.subscript?
  refine wpAny_bind (wpAny_specialOf (typeIs_int s k t) F.slot_int_index.lookup ?_)
  refine bm_if_false rfl ?_
  refine wpAny_bind (wpAny_of_eq (a := k) rfl ?_)
  refine bm_if_false ?_ (wpAny_pure h)
  simp only [Builtin.Bytes.fitsIndex, Bool.not_eq_false', Bool.and_eq_true, decide_eq_true_eq]
  omega

theorem seqIndex_of {k : Int} {n : Nat} (h0 : 0 ≤ k) (h1 : k < n) : seqIndex? k n = some k.toNat := by
  have hn : ¬ k < 0 := by omega
  simp [seqIndex?, hn, h0, h1]

theorem ba_getItem {r : Addr} {ns : List Int} {k : Int} {t : Tok} {v : Int} {Q : Value → Shared → Prop} (hr : s.heap.get? r = some (ba ns)) (h0 : 0 ≤ k) (hk : k < 2 ^ 63) (hx : ns[k.toNat]? = some v) (hv : 0 ≤ v ∧ v < 256)
    (h : Q (.int v s.toks) { s with toks := s.toks + 1 }) : wpAny (model prog w) A (getItem (.ref r) (.int k t)) Q E s := by
  have hT : s.TypeIs (.ref r) "bytearray" := ⟨_, hr, rfl⟩
  have hlt : k < ns.length := by
    have := (List.getElem?_eq_some_iff.mp hx).1; omega
  unfold getItem
  try with_reducible refine wpAny_holding ?_
  first | refine wpAny_bind (wpAny_pure ?_) | skip
  refine wpAny_bind (wpAny_sequenceKey hT (by decide) ?_)
  refine wpAny_bind (wpAny_callSpecial?_slot (name := Str.ofString "__getitem__") hT FA.slot_getitem
    (wpAny_call_entry FA.slot_getitem hT FA.entry_getitem ?_ (FA.args_getitem _ _)))
  show wpAny _ _ (Builtin.Bytes.subscript? (.int k t) >>= _) _ _ s
  refine wpAny_bind (ba_subscript h0 hk ?_)
  show wpAny _ _ (Builtin.Bytes.payload (.ref r) >>= _) _ _ _
  refine wpAny_bind (ba_payload hr ?_)
  rw [byteArr_size, seqIndex_of h0 hlt]
  show wpAny _ _ (match (byteArr ns)[k.toNat]? with | some x => _ | none => _) _ _ _
  rw [byteArr_getElem?, hx]
  show wpAny _ _ (retInt (v.toNat.toUInt8).toNat) _ _ _
  rw [octet_back hv.1 hv.2]
  exact wpAny_bind (wpAny_mkInt (wpAny_pure ⟨_, rfl, wpAny_pure h⟩))

theorem ba_setItem {r : Addr} {ns : List Int} {k : Int} {t u : Tok} {v : Int} {Q : Unit → Shared → Prop} (hr : s.heap.get? r = some (ba ns)) (h0 : 0 ≤ k) (hk : k < 2 ^ 63) (hlt : k < ns.length) (hz : ns.length ≤ sizeLine) (hv : 0 ≤ v ∧ v < 256)
    (hQ : ∀ h', h'.get? r = some (ba (ns.set k.toNat v)) → Heap.SameBut r s.heap h' → Q () { s with heap := h' }) : wpAny (model prog w) A (setItem (.ref r) (.int k t) (.int v u)) Q E s := by
  have hT : s.TypeIs (.ref r) "bytearray" := ⟨_, hr, rfl⟩
  unfold setItem
  try with_reducible refine wpAny_holding ?_
  first | refine wpAny_bind (wpAny_pure ?_) | skip
  refine wpAny_bind (wpAny_sequenceKey hT (by decide) ?_)
  refine wpAny_bind (wpAny_callSpecial?_slot (name := Str.ofString "__setitem__") hT FA.slot_setitem
    (wpAny_call_entry FA.slot_setitem hT FA.entry_setitem ?_ (FA.args_setitem _ _ _)))
  show wpAny _ _ (Builtin.Bytes.subscript? (.int k t) >>= _) _ _ s
  refine wpAny_bind (ba_subscript h0 hk ?_)
  show wpAny _ _ (Builtin.Bytes.byteValue (.int v u) >>= _) _ _ _
  refine wpAny_bind ?_
  unfold Builtin.Bytes.byteValue
  refine wpAny_bind (wpAny_of_eq (a := v) rfl ?_)
  refine bm_if_false (by simp only [Bool.or_eq_false_iff, decide_eq_false_iff_not]; omega) (wpAny_pure ?_)
  refine wpAny_bind (ba_payload hr ?_)
  rw [byteArr_size, seqIndex_of h0 hlt]
  refine wpAny_bind (ba_write hr (by simp [byteArr]; exact hz) fun h' hr' hs' => ?_)
  rw [byteArr_set] at hr'
  exact wpAny_pure ⟨_, rfl, wpAny_pure (hQ h' hr' hs')⟩

variable {env : Env}
theorem Ev_ba {o i : Expr} {pos : Pos} {a : Addr} {ns : List Int} {k v : Int} (ho : Ev prog w A env s o (IsR a)) (hi : Ev prog w A env s i (IsI k))
    (hl : s.heap.get? a = some (ba ns)) (h0 : 0 ≤ k) (hk : k < 2 ^ 63) (hx : ns[k.toNat]? = some v) (hv : 0 ≤ v ∧ v < 256)
    (hs : ∀ u, subscripted i false (.ref a) (.int k u) = operate [.ref a, .int k u] (getItem (.ref a) (.int k u)) := by intro _; with_unfolding_all rfl) :
    Ev prog w A env s (.Subscript o i pos) (IsI v) := fun _ =>
  Subscript_ (ho.useAt fun vo _ e => hi.useAt fun vi _ ⟨u, e'⟩ => by
    subst e; subst e'
    exact tail_any (T := "bytearray") (s := { s with toks := _ }) ⟨_, hl, rfl⟩ FA.slot_getitem.lookup (ba_getItem (s := { s with toks := _ }) hl h0 hk hx hv ⟨⟨_, rfl⟩, _, rfl⟩) (hs u))
end
end Mine

set_option maxRecDepth 100000
namespace Mine
open PySem PySem.W PyProof.Rows PySem.Calls

/-! ## The state of a frame: its names, what the call has made, what stood before -/
def upd (m : Str → Option Value) (x : Str) (v : Value) : Str → Option Value := fun y => if y = x then some v else m y
theorem upd_same (m : Str → Option Value) (x : Str) (v : Value) : upd m x v x = some v := if_pos rfl
theorem upd_ne {m : Str → Option Value} {x y : Str} {v : Value} (h : y ≠ x) : upd m x v y = m y := if_neg h

structure Sep (h₀ : Heap) (L : Addr) (h : Heap) (m : Str → Option Value) (nw : List (Addr × Obj)) : Prop where
  F : Fr h₀ L h m
  N : News h₀ L h nw
  D : (nw.map (·.1)).Nodup

namespace Sep
variable {h₀ h h' : Heap} {L : Addr} {m m' : Str → Option Value} {nw nw' : List (Addr × Obj)}
theorem get (S : Sep h₀ L h m nw) {a : Addr} {o : Obj} (hm : (a, o) ∈ nw) : h.get? a = some o := S.N.get hm
theorem base (S : Sep h₀ L h m nw) {a : Addr} {o : Obj} (e : h₀.get? a = some o) : h.get? a = some o := S.F.keep a o e
theorem set (S : Sep h₀ L h m nw) (hn : h'.Ns L m') (hs : Heap.SameBut L h h') : Sep h₀ L h' m' nw := ⟨S.F.set hn hs, S.N.set hs, S.D⟩
theorem grow (S : Sep h₀ L h m nw) (hk : ∀ b o, h.get? b = some o → h'.get? b = some o) : Sep h₀ L h' m nw :=
  ⟨⟨S.F.ns.keeps hk, fun b o e => hk b o (S.F.keep b o e), S.F.above⟩, fun p hp => ⟨hk _ _ (S.N p hp).1, (S.N p hp).2⟩, S.D⟩
theorem old_none (S : Sep h₀ L h m nw) {a : Addr} (ha : h.get? a = none) : h₀.get? a = none := by
  cases e : h₀.get? a with
  | none => rfl
  | some o => rw [S.F.keep a o e] at ha; cases ha
theorem ne_of_none (S : Sep h₀ L h m nw) {a : Addr} (ha : h.get? a = none) {p : Addr × Obj} (hp : p ∈ nw) : p.1 ≠ a := fun e => by
  have := (S.N p hp).1; rw [e, ha] at this; cases this
theorem add (S : Sep h₀ L h m nw) (hk : ∀ b o, h.get? b = some o → h'.get? b = some o) {a : Addr} {o : Obj} (ha : h.get? a = none) (ho : h'.get? a = some o) : Sep h₀ L h' m ((a, o) :: nw) := by
  have S' := S.grow hk
  refine ⟨S'.F, fun p hp => ?_, ?_⟩
  · rcases List.mem_cons.mp hp with rfl | hp
    · refine ⟨ho, fun e => ?_, S.old_none ha⟩
      obtain ⟨o', _, _, e', _⟩ := S.F.ns
      rw [show a = L from e] at ha; rw [ha] at e'; cases e'
    · exact S'.N p hp
  · rw [List.map_cons, List.nodup_cons]
    refine ⟨fun hm => ?_, S.D⟩
    obtain ⟨p, hp, e⟩ := List.mem_map.mp hm
    exact S.ne_of_none ha hp e
theorem push (S : Sep h₀ L h m nw) (o : Obj) (hf : o.isFreed = false := by rfl) : Sep h₀ L (h.push o) m ((h.objs.size, o) :: nw) :=
  S.add (fun _ _ e => Heap.get?_push_of_some _ e) (by
    cases e : h.get? h.objs.size with
    | none => rfl
    | some o' => exact absurd (Heap.lt_size e) (Nat.lt_irrefl _)) (Heap.get?_push_size _ hf)
theorem perm (S : Sep h₀ L h m nw) (hp : nw'.Perm nw) : Sep h₀ L h m nw' :=
  ⟨S.F, fun p hm => S.N p (hp.subset hm), (hp.map (·.1)).nodup_iff.mpr S.D⟩
theorem sub (S : Sep h₀ L h m nw) (hp : nw'.Sublist nw) : Sep h₀ L h m nw' :=
  ⟨S.F, fun p hm => S.N p (hp.subset hm), S.D.sublist (hp.map _)⟩
theorem tail {p : Addr × Obj} (S : Sep h₀ L h m (p :: nw)) : Sep h₀ L h m nw := S.sub (List.sublist_cons_self _ _)
/-- the first object of the ledger turns -/
theorem turn {a : Addr} {o o' : Obj} (S : Sep h₀ L h m ((a, o) :: nw)) (hs : Heap.ExtBut a h h') (ho : h'.get? a = some o') : Sep h₀ L h' m ((a, o') :: nw) := by
  have hN := S.N (a, o) (.head _)
  have hD : a ∉ nw.map (·.1) ∧ (nw.map (·.1)).Nodup := by have := S.D; rwa [List.map_cons, List.nodup_cons] at this
  have hne : ∀ p ∈ nw, p.1 ≠ a := fun p hp e => hD.1 (e ▸ List.mem_map_of_mem hp)
  have hold : ∀ b o, h₀.get? b = some o → b ≠ a := fun b o e q => by rw [q, hN.2.2] at e; cases e
  refine ⟨⟨?_, fun b o e => hs b o (hold b o e) (S.F.keep b o e), S.F.above⟩, fun p hp => ?_, ?_⟩
  · obtain ⟨oL, x1, x2, e, r⟩ := S.F.ns
    exact ⟨oL, x1, x2, hs L oL (Ne.symm hN.2.1) e, r⟩
  · rcases List.mem_cons.mp hp with rfl | hp
    · exact ⟨ho, hN.2⟩
    · have := S.N p (.tail _ hp)
      exact ⟨hs _ _ (hne p hp) this.1, this.2⟩
  · rw [List.map_cons, List.nodup_cons]; exact hD
theorem forget {a : Addr} {o : Obj} (S : Sep h₀ L h m ((a, o) :: nw)) (hs : Heap.ExtBut a h h') : Sep h₀ L h' m nw := by
  have hN := S.N (a, o) (.head _)
  have hD : a ∉ nw.map (·.1) ∧ (nw.map (·.1)).Nodup := by have := S.D; rwa [List.map_cons, List.nodup_cons] at this
  have hne : ∀ p ∈ nw, p.1 ≠ a := fun p hp e => hD.1 (e ▸ List.mem_map_of_mem hp)
  have hold : ∀ b o, h₀.get? b = some o → b ≠ a := fun b o e q => by rw [q, hN.2.2] at e; cases e
  refine ⟨⟨?_, fun b o e => hs b o (hold b o e) (S.F.keep b o e), S.F.above⟩, fun p hp => ?_, hD.2⟩
  · obtain ⟨oL, x1, x2, e, r⟩ := S.F.ns
    exact ⟨oL, x1, x2, hs L oL (Ne.symm hN.2.1) e, r⟩
  · have := S.N p (.tail _ hp)
    exact ⟨hs _ _ (hne p hp) this.1, this.2⟩
end Sep

/-! ## Statements -/
section
variable {prog : Program} {w : World} {A : Around} {env : Env} {s : Shared}

theorem C_nil {Q : Flow → Shared → Prop} (h : Q .next s) : wpC (model prog w) A (execs [] env) Q s := fun _ _ _ _ _ => h
theorem C_cons {st : Stmt} {rest : List Stmt} {Q : Flow → Shared → Prop}
    (h : wpC (model prog w) A (exec st env) (fun f s' => f = .next ∧ wpC (model prog w) A (execs rest env) Q s') s) : wpC (model prog w) A (execs (st :: rest) env) Q s := by
  rw [execs_cons]
  refine wpC_bind (wpC_mono h ?_)
  rintro f s' ⟨rfl, h'⟩
  exact h'
theorem C_one {st : Stmt} {Q : Flow → Shared → Prop} (h : wpC (model prog w) A (exec st env) Q s) : wpC (model prog w) A (execs [st] env) Q s := by
  rw [execs_cons]
  refine wpC_bind (wpC_mono h fun f s' hq => ?_)
  cases f with
  | next => exact C_nil hq
  | _ => exact wpC_pure hq

theorem codeC_block {stmts : List Stmt} {R : Flow → Shared → Prop} (h : wpC (model prog w) A (execs stmts env) R s) : codeC (model prog w) A (.block stmts env) R s := by
  refine codeC_of_tree rfl ?_
  show wpC _ _ (do return Fin.done (← (execs stmts env).onRaise (fun x => do noteFrame x env; theTreesLotGoes x))) _ s
  exact wpC_bind (wpC_onRaise (wpC_mono h fun f s' h' => wpC_pure h'))

theorem codeC_func {body : List Stmt} {R : Flow → Shared → Prop} (h : wpC (model prog w) (A.deeper env) (execs body env) (fun f s' => R (.ret (match f with | .ret v => v | _ => .none)) s') s) :
    codeC (model prog w) A (.func body env) R s := by
  refine codeC_of_tree rfl ?_
  show wpC _ (A.deeper env) (do point; match ← (execs body env).onRaise (leaving env) with | .ret v => ret v | _ => ret .none) _ s
  refine wpC_bind (wpC_of (wpAny_point (wpC_bind (wpC_onRaise (wpC_mono h fun f s' h' => ?_)))))
  cases f <;> exact wpC_pure h'

theorem C_For {target : Expr} {iter : Expr} {body orelse : List Stmt} {pos : Pos} {Q : Flow → Shared → Prop}
    (h : wpC (model prog w) A (eval iter env) (fun x s₁ => wpC (model prog w) A (pyIter x) (fun it s₂ => codeC (model prog w) A (.forLoop target it body orelse env) Q s₂) s₁) s)
    (hs : ∀ x, foldedSetIterable iter env x = pure x := by intro _; rfl) : wpC (model prog w) A (exec (.For target iter body orelse pos) env) Q s := by
  show wpC _ _ (do
    standAt pos
    let x ← foldedSetIterable iter env (← eval iter env)
    standAt iter.pos
    runOwn (.forLoop target (← holding [x] (pyIter x)) body orelse env) env) _ _
  exact wpC_bind (wpC_standAt (wpC_bind (wpC_mono h fun x s₁ h₁ => wpC_bind (wpC_of_eq (hs x) (wpC_bind (wpC_standAt (wpC_bind (wpC_holding (wpC_mono h₁ fun it s₂ h₂ => wpC_runOwn h₂)))))))))

theorem C_forLoop {h₀ : Heap} {x : Str} {px : Pos} {body : List Stmt} {I : Addr} {o₀ : Obj} {n : Nat} {m : Str → Option Value} {nw : List (Addr × Obj)} {R : Flow → Shared → Prop}
    (It : Nat → Heap → Prop) (X : Heap → Prop) (P : Nat → Value → Prop) (J : Nat → (Str → Option Value) → List (Addr × Obj) → Prop)
    (hIt : ∀ i h h', h'.get? I = h.get? I → It i h → It i h') (hIe : ∀ i h, It i h → ∃ o, h.get? I = some o) (hX : ∀ h h' : Heap, (∀ b o, b ≠ I → b ≠ env.locals → h.get? b = some o → h'.get? b = some o) → X h → X h')
    (next : ∀ i (s : Shared) (Q : Option Value → Shared → Prop), i < n → It i s.heap → X s.heap → (∀ v h' tk, P i v → It (i + 1) h' → Heap.SameBut I s.heap h' → Q (some v) { s with heap := h', toks := tk }) → wpAny (model prog w) A (pyNext (.ref I)) Q NoE s)
    (last : ∀ (s : Shared) (Q : Option Value → Shared → Prop), It n s.heap → X s.heap → (∀ h', Heap.ExtBut I s.heap h' → Q none { s with heap := h' }) → wpAny (model prog w) A (pyNext (.ref I)) Q NoE s)
    (hx : env.kindOf x = some .local) (hp : (env.scope.kind == .class || (env.scope.kind == .module && env.locals != env.globals)) = false)
    (h0 : It 0 s.heap) (hX0 : X s.heap) (S : Sep h₀ env.locals s.heap m ((I, o₀) :: nw)) (hJ : J 0 m nw)
    (step : ∀ i v m₁ nw₁ o h tk, i < n → P i v → J i m₁ nw₁ → X h → Sep h₀ env.locals h (upd m₁ x v) ((I, o) :: nw₁) →
      wpC (model prog w) A (execs body env) (fun f s₂ => f = .next ∧ ∃ h' tk' m' nw', s₂ = { s with heap := h', toks := tk' } ∧ X h' ∧ Sep h₀ env.locals h' m' ((I, o) :: nw') ∧ J (i + 1) m' nw') { s with heap := h, toks := tk })
    (hR : ∀ h tk m₁ nw₁, J n m₁ nw₁ → X h → Sep h₀ env.locals h m₁ nw₁ → R .next { s with heap := h, toks := tk }) :
    codeC (model prog w) A (.forLoop (.Name x px) (.ref I) body [] env) R s := by
  refine codeC_loop rfl rfl
    (fun k s' => ∃ h tk m₁ nw₁ o i, s' = { s with heap := h, toks := tk } ∧ It i h ∧ X h ∧ Sep h₀ env.locals h m₁ ((I, o) :: nw₁) ∧ J i m₁ nw₁ ∧ i ≤ n ∧ k = n + 1 - i) ?_ (n + 1)
    ⟨s.heap, s.toks, m, nw, o₀, 0, rfl, h0, hX0, S, hJ, Nat.zero_le _, rfl⟩
  rintro k s' ⟨h, tk, m₁, nw₁, o, i, rfl, hit, hXh, S₁, hJ₁, hi, rfl⟩
  show wpC _ _ ((forTurn (.Name x px) (.ref I) body [] env).onRaise (fun x => do noteFrame x env; theTreesLotGoes x)) _ _
  refine wpC_onRaise ?_
  simp only [forTurn]
  refine wpC_bind (wpC_standAt (wpC_bind (wpC_onRaise ?_)))
  by_cases hlt : i < n
  · refine wpC_of (next i _ _ hlt hit hXh fun v h' tk' hP hit' hs' => ?_)
    refine wpC_bind (wpC_of_eq (a := ()) rfl ?_)
    obtain ⟨o', ho'⟩ := hIe _ _ hit'
    have S₂ := S₁.turn hs'.extBut ho'
    refine wpC_bind (wpC_of (wpAny_assign_Name (wpAny_storeName_local hx S₂.F.ns (fun h₂ hn₂ hs₂ => ?_) hp)))
    have S₃ := S₂.set hn₂ hs₂
    have hIL : I ≠ env.locals := (S₂.N (I, o') (.head _)).2.1
    have hX₂ : X h₂ := hX _ _ (fun b o hb hbL e => hs₂.extBut b o hbL (hs'.extBut b o hb e)) hXh
    refine wpC_bind (wpC_mono (step i v m₁ nw₁ o' h₂ _ hlt hP hJ₁ hX₂ S₃) ?_)
    · rintro f s₃ ⟨rfl, h₃, tk₃, m₃, nw₃, rfl, hX₃, S₄, hJ₃⟩
      refine wpC_pure (.inl ⟨rfl, n + 1 - (i + 1), by omega, h₃, tk₃, m₃, nw₃, o', i + 1, rfl, ?_, hX₃, S₄, hJ₃, hlt, rfl⟩)
      refine hIt _ _ _ ?_ hit'
      rw [S₄.get (.head _), ho']
  · have : i = n := by omega
    subst this
    refine wpC_of (last _ _ hit hXh fun h' he' => ?_)
    exact wpC_pure (.inr ⟨rfl, codeC_block (C_nil (hR _ _ _ _ hJ₁ (hX _ _ (fun b o hb _ e => he' b o hb e) hXh) (S₁.forget he')))⟩)
end
end Mine

set_option maxRecDepth 100000
namespace Mine
open PySem PySem.W PyProof.Rows PySem.Calls

/-- what the top has laid, as far as the law asks it -/
structure Root (mg mb : Str → Option Value) (h : Heap) : Prop where
  g : h.Ns mainGlobals mg
  b : h.Ns builtinsNs mb
  nl : h.NoLimit
  len : mg "len" = none ∧ mb "len" = some (.builtin "len")
  range : mg "range" = none ∧ mb "range" = some (.type "range")
  ba : mg "bytearray" = none ∧ mb "bytearray" = some (.type "bytearray")
theorem Root.keeps {mg mb : Str → Option Value} {h h' : Heap} (R : Root mg mb h) (hk : ∀ b o, h.get? b = some o → h'.get? b = some o) : Root mg mb h' :=
  ⟨R.g.keeps hk, R.b.keeps hk, R.nl.keeps hk, R.len, R.range, R.ba⟩

def FnAt (mg : Str → Option Value) (h : Heap) (name : Str) (params : Arguments) (body : List Stmt) (scope : Scope) : Prop :=
  ∃ a o pm cd doc, mg name = some (.ref a) ∧ h.get? a = some o ∧ o.data = .func (docDef name params body scope pm cd doc) ∧ h.CodeRec cd name
theorem FnAt.keeps {mg : Str → Option Value} {h h' : Heap} {name : Str} {params : Arguments} {body : List Stmt} {scope : Scope} (x : FnAt mg h name params body scope)
    (hk : ∀ b o, h.get? b = some o → h'.get? b = some o) : FnAt mg h' name params body scope :=
  let ⟨a, o, pm, cd, doc, h1, h2, h3, h4⟩ := x; ⟨a, o, pm, cd, doc, h1, hk _ _ h2, h3, h4.keeps hk⟩

section
variable {prog : Program} {w : World} {A : Around} {s : Shared} {nm : Str} {sc : Scope} {L fa : Addr} {cd : Value} {cl : List (Str × Addr)} {mg mb : Str → Option Value} {h₀ : Heap}
  {m : Str → Option Value} {nw : List (Addr × Obj)}

theorem Ev_builtin {x : Str} {pos : Pos} {v : Value} (R : Root mg mb s.heap) (h1 : mg x = none) (h2 : mb x = some v)
    (hk : sc.kind = .function := by rfl) (hx : (envX nm sc L fa cd cl).kindOf x = some .globalImplicit := by rfl) (hd : (x == ("__debug__" : Str)) = false := by decide) :
    Ev prog w A (envX nm sc L fa cd cl) s (.Name x pos) (fun v' => v' = v) :=
  fun _ => Name_function_global hk hx (loadGlobal_builtin (env := envX nm sc L fa cd cl) R.g h1 R.b h2 ⟨rfl, _, rfl⟩) hd
theorem Ev_global {x : Str} {pos : Pos} {v : Value} (R : Root mg mb s.heap) (h1 : mg x = some v)
    (hk : sc.kind = .function := by rfl) (hx : (envX nm sc L fa cd cl).kindOf x = some .globalImplicit := by rfl) (hd : (x == ("__debug__" : Str)) = false := by decide) :
    Ev prog w A (envX nm sc L fa cd cl) s (.Name x pos) (fun v' => v' = v) :=
  fun _ => Name_function_global hk hx (loadGlobal_global (env := envX nm sc L fa cd cl) R.g h1 ⟨rfl, _, rfl⟩) hd

variable {env : Env}
theorem eval_range1 {e f : Expr} {rpos : Pos} {N : Int} {Q : Value → Shared → Prop} {id : Str} {p : Pos} (hf : Ev prog w A env s f (fun v => v = .type "range")) (he : Ev prog w A env s e (IsI N)) (hfe : f = .Name id p)
    (hse : backTo rpos (starEach [e] env) = [(false, eval e env)])
    (hQ : ∀ tk t u v, Q (.ref s.heap.objs.size) { s with heap := s.heap.push { cls := .type "range", data := .fields #[.int 0 t, .int N u, .int 1 v] }, toks := tk }) :
    wpAny (model prog w) A (eval (.Call f [e] [] rpos) env) Q NoE s := by
  subst hfe
  refine wpAny_Call_NameR (hf.use fun v tk hv => ?_)
  subst hv
  rw [hse]
  refine PySem.callWith_type rfl (evalArgs_plain (spliced_cons (he.useAt fun v tk' ⟨u, e'⟩ => spliced_nil ?_)))
  subst e'
  exact call_range_1 (hQ _ _ _ _)
theorem eval_range2 {e e₂ f : Expr} {rpos : Pos} {lo N : Int} {Q : Value → Shared → Prop} {id : Str} {p : Pos} (hf : Ev prog w A env s f (fun v => v = .type "range")) (he : Ev prog w A env s e (IsI lo)) (he₂ : Ev prog w A env s e₂ (IsI N)) (hfe : f = .Name id p)
    (hse : backTo rpos (starEach [e, e₂] env) = [(false, eval e env), (false, eval e₂ env)])
    (hQ : ∀ tk t u v, Q (.ref s.heap.objs.size) { s with heap := s.heap.push { cls := .type "range", data := .fields #[.int lo t, .int N u, .int 1 v] }, toks := tk }) :
    wpAny (model prog w) A (eval (.Call f [e, e₂] [] rpos) env) Q NoE s := by
  subst hfe
  refine wpAny_Call_NameR (hf.use fun v tk hv => ?_)
  subst hv
  rw [hse]
  refine PySem.callWith_type rfl (evalArgs_plain (spliced_cons (he.useAt fun v tk' ⟨u, e'⟩ => spliced_cons (he₂.useAt fun v₂ tk₂ ⟨u₂, e₂'⟩ => spliced_nil ?_))))
  subst e'; subst e₂'
  exact call_range_2 (hQ _ _ _ _)

/-- a for over a range -/
theorem C_for_range {x : Str} {px pos : Pos} {iter : Expr} {body : List Stmt} {Q : Flow → Shared → Prop} {lo hi : Int} {n : Nat} (J : Nat → (Str → Option Value) → List (Addr × Obj) → Prop)
    (hh : A.handled = none) (S : Sep h₀ env.locals s.heap m nw) (hJ : J 0 m nw)
    (hiter : ∀ Q' : Value → Shared → Prop, (∀ tk t u v, Q' (.ref s.heap.objs.size) { s with heap := s.heap.push { cls := .type "range", data := .fields #[.int lo t, .int hi u, .int 1 v] }, toks := tk }) → wpAny (model prog w) A (eval iter env) Q' NoE s)
    (hn : n = (hi - lo).toNat) (b1 : -(2 ^ 62) ≤ lo) (b2 : lo < 2 ^ 62) (b3 : -(2 ^ 62) ≤ hi) (b4 : hi < 2 ^ 62)
    (hx : env.kindOf x = some .local) (hp : (env.scope.kind == .class || (env.scope.kind == .module && env.locals != env.globals)) = false)
    (step : ∀ i t m₁ nw₁ p h tk, i < n → J i m₁ nw₁ → Sep h₀ env.locals h (upd m₁ x (.int (lo + (i : Nat)) t)) (p :: nw₁) →
      wpC (model prog w) A (execs body env) (fun f s₂ => f = .next ∧ ∃ h' tk' m' nw', s₂ = { s with heap := h', toks := tk' } ∧ Sep h₀ env.locals h' m' (p :: nw') ∧ J (i + 1) m' nw') { s with heap := h, toks := tk })
    (hR : ∀ h tk m₁ nw₁, J n m₁ nw₁ → Sep h₀ env.locals h m₁ nw₁ → Q .next { s with heap := h, toks := tk })
    (hs : ∀ x, foldedSetIterable iter env x = pure x := by intro _; rfl) :
    wpC (model prog w) A (exec (.For (.Name x px) iter body [] pos) env) Q s := by
  refine C_For (wpC_of (hiter _ fun tk t u v => wpC_of ?_)) hs
  refine wpAny_pyIter_range (IsRange.new ..) (small_one b1 b2 b3 b4) ?_
  have S₁ := (S.push { cls := .type "range", data := .fields #[.int lo t, .int hi u, .int 1 v] }).tail
  have S₂ := S₁.push { cls := .type "range_iterator", data := .fields #[rawInt lo, rawInt (Builtin.Range.rangeSize lo hi 1), rawInt 1] }
  have hsz : Builtin.Range.rangeSize lo hi 1 = (n : Int) := by rw [rangeSize_one, hn]; split <;> omega
  refine C_forLoop (s := { s with heap := _, toks := tk }) (n := n) (fun i h => IsRangeIter h (s.heap.push { cls := .type "range", data := .fields #[.int lo t, .int hi u, .int 1 v] }).objs.size (lo + (i : Nat)) ((n : Int) - (i : Nat)) 1) (fun _ => True) (fun i v => ∃ t, v = .int (lo + (i : Nat)) t) J
    (fun i h h' e x => e.trans x) (fun i h x => ⟨_, x⟩) (fun _ _ _ _ => trivial) ?_ ?_ hx hp ?_ trivial S₂ hJ ?_ ?_
  · intro i s Q hi hit _ hQ
    refine wpAny_pyNext_range_item hit (by omega) fun h' hit' hs' => hQ _ _ _ ⟨_, rfl⟩ ?_ hs'
    have e1 : lo + ((i + 1 : Nat) : Int) = lo + (i : Nat) + 1 := by push_cast; omega
    have e2 : (n : Int) - ((i + 1 : Nat) : Int) = (n : Int) - (i : Nat) - 1 := by push_cast; omega
    rw [e1, e2]; exact hit'
  · intro s Q hit _ hQ
    exact wpAny_pyNext_range_end hh hit (by omega) fun h' he => hQ h' he
  · show IsRangeIter _ _ _ _ _
    rw [hsz]
    have e := Heap.get?_push_size (s.heap.push { cls := .type "range", data := .fields #[.int lo t, .int hi u, .int 1 v] }) (o := { cls := .type "range_iterator", data := .fields #[rawInt lo, rawInt (n : Int), rawInt 1] }) rfl
    simpa using e
  · rintro i v m₁ nw₁ o h tk' hi ⟨t', rfl⟩ hJ₁ _ S₃
    refine wpC_mono (step i t' m₁ nw₁ _ h tk' hi hJ₁ S₃) ?_
    rintro f s₂ ⟨rfl, h', tk'', m', nw', rfl, S₄, hJ₄⟩
    exact ⟨rfl, h', tk'', m', nw', rfl, trivial, S₄, hJ₄⟩
  · intro h tk' m₁ nw₁ hJ₁ _ S₃
    exact hR h tk' m₁ nw₁ hJ₁ S₃

/-- a for over a list that stays -/
theorem C_for_list {x : Str} {px pos : Pos} {iter : Expr} {body : List Stmt} {Q : Flow → Shared → Prop} {l : Addr} {vs : List Value} {ne : Nat} (J : Nat → (Str → Option Value) → List (Addr × Obj) → Prop)
    (hh : A.handled = none) (S : Sep h₀ env.locals s.heap m nw) (hJ : J 0 m nw) (hiter : Ev prog w A env s iter (IsR l)) (hJl : ∀ i m nw, J i m nw → (l, lst vs ne) ∈ nw)
    (hx : env.kindOf x = some .local) (hp : (env.scope.kind == .class || (env.scope.kind == .module && env.locals != env.globals)) = false)
    (step : ∀ i v m₁ nw₁ p h tk, i < vs.length → vs[i]? = some v → J i m₁ nw₁ → Sep h₀ env.locals h (upd m₁ x v) (p :: nw₁) →
      wpC (model prog w) A (execs body env) (fun f s₂ => f = .next ∧ ∃ h' tk' m' nw', s₂ = { s with heap := h', toks := tk' } ∧ Sep h₀ env.locals h' m' (p :: nw') ∧ J (i + 1) m' nw') { s with heap := h, toks := tk })
    (hR : ∀ h tk m₁ nw₁, J vs.length m₁ nw₁ → Sep h₀ env.locals h m₁ nw₁ → Q .next { s with heap := h, toks := tk })
    (hs : ∀ x, foldedSetIterable iter env x = pure x := by intro _; rfl) :
    wpC (model prog w) A (exec (.For (.Name x px) iter body [] pos) env) Q s := by
  refine C_For (wpC_of (hiter.use fun v tk e => wpC_of ?_)) hs
  subst e
  have hm₀ := hJl 0 _ _ hJ
  have hl := S.get hm₀
  have hl₁ : s.heap.IsList l vs.toArray := ⟨_, hl, rfl, ne, rfl⟩
  refine wpAny_pyIter_list (s := { s with toks := tk }) hl₁ ?_
  have S₂ := S.push { cls := .type "list_iterator", data := .fields #[.ref l, .int 0 0] }
  have hlI : l ≠ s.heap.objs.size := Nat.ne_of_lt (Heap.lt_size hl)
  have hlL : l ≠ env.locals := (S.N _ hm₀).2.1
  refine C_forLoop (s := { s with heap := _, toks := tk }) (n := vs.length) (fun i h => h.IsListIter s.heap.objs.size l i) (fun h => h.get? l = some (lst vs ne)) (fun i v => vs[i]? = some v) J
    (fun i h h' e x => ?_) (fun i h x => ?_) (fun h h' hk e => hk l _ hlI hlL e) ?_ ?_ hx hp ⟨_, Heap.get?_push_size _ rfl, rfl, rfl⟩ (Heap.get?_push_of_some _ hl) S₂ hJ ?_ ?_
  · obtain ⟨o, ho, r⟩ := x; exact ⟨o, e.trans ho, r⟩
  · obtain ⟨o, ho, r⟩ := x; exact ⟨o, ho⟩
  · intro i s Q hi hit hX hQ
    exact wpAny_pyNext_list_item hit ⟨_, hX, rfl, ne, rfl⟩ (x := vs[i]) (by simp [hi]) fun h' hit' hs' => hQ _ h' s.toks (by simp [hi]) hit' hs'
  · intro s Q hit hX hQ
    exact wpAny_pyNext_list_end hh hit ⟨_, hX, rfl, ne, rfl⟩ (by simp) fun h' he' => hQ h' he'
  · rintro i v m₁ nw₁ o h tk' hi hv hJ₁ _ S₃
    refine wpC_mono (step i v m₁ nw₁ _ h tk' hi hv hJ₁ S₃) ?_
    rintro f s₂ ⟨rfl, h', tk'', m', nw', rfl, S₄, hJ₄⟩
    exact ⟨rfl, h', tk'', m', nw', rfl, S₄.get (.tail _ (hJl _ _ _ hJ₄)), S₄, hJ₄⟩
  · intro h tk' m₁ nw₁ hJ₁ _ S₃
    exact hR h tk' m₁ nw₁ hJ₁ S₃
end
end Mine

set_option maxRecDepth 100000
namespace Mine
open PySem PySem.W PyProof.Rows PySem.Calls

section
variable {prog : Program} {w : World} {A : Around} {env : Env} {s : Shared} {h₀ : Heap} {m : Str → Option Value} {nw : List (Addr × Obj)}

/-! ### plain statements over a frame -/
theorem Sep.store {x : Str} {v : Value} {Q : Unit → Shared → Prop} {E : Value → Shared → Prop} {M : Model} (S : Sep h₀ env.locals s.heap m nw)
    (hx : env.kindOf x = some .local) (hp : (env.scope.kind == .class || (env.scope.kind == .module && env.locals != env.globals)) = false)
    (h : ∀ h' tk, Sep h₀ env.locals h' (upd m x v) nw → Q () { s with heap := h', toks := tk }) : wpAny M A (storeName env x v) Q E s :=
  wpAny_storeName_local hx S.F.ns (fun h' hn hs => h h' _ (S.set hn hs)) hp

theorem S_assign {x : Str} {px pos : Pos} {e : Expr} {P : Value → Prop} {Q : Flow → Shared → Prop} (S : Sep h₀ env.locals s.heap m nw) (he : Ev prog w A env s e P)
    (hx : env.kindOf x = some .local) (hp : (env.scope.kind == .class || (env.scope.kind == .module && env.locals != env.globals)) = false)
    (hs : swapsWith e (some (.Name x px)) pos.line env = pure false)
    (h : ∀ v h' tk, P v → Sep h₀ env.locals h' (upd m x v) nw → Q .next { s with heap := h', toks := tk }) : wpC (model prog w) A (exec (.Assign [.Name x px] e pos) env) Q s :=
  wpC_of (wpAny_Assign_Name (he.use fun v tk hv => Sep.store (s := { s with toks := tk }) S hx hp fun h' tk' S' => h v h' tk' hv S') hs)

/-- an assignment of a value that is made -/
theorem S_assignC {x : Str} {px pos : Pos} {e : Expr} {Q : Flow → Shared → Prop}
    (hx : env.kindOf x = some .local) (hp : (env.scope.kind == .class || (env.scope.kind == .module && env.locals != env.globals)) = false)
    (hs : swapsWith e (some (.Name x px)) pos.line env = pure false)
    (he : wpC (model prog w) A (eval e env) (fun v s₁ => ∃ h₀ m nw, Sep h₀ env.locals s₁.heap m nw ∧ ∀ h' tk, Sep h₀ env.locals h' (upd m x v) nw → Q .next { s₁ with heap := h', toks := tk }) s) :
    wpC (model prog w) A (exec (.Assign [.Name x px] e pos) env) Q s := by
  rw [exec_Assign_Name env x px e pos hs]
  refine wpC_bind (wpC_standAt (wpC_bind (wpC_mono he ?_)))
  rintro v s₁ ⟨h₀, m, nw, S, h⟩
  refine wpC_bind (wpC_standAt (wpC_bind (wpC_of (wpAny_bindName (Sep.store S hx hp fun h' tk S' => wpC_pure (h h' tk S'))))))

theorem S_augadd {x : Str} {px pos : Pos} {e : Expr} {a b : Int} {Q : Flow → Shared → Prop} (S : Sep h₀ env.locals s.heap m nw) (hm : ∃ t, m x = some (.int a t)) (he : Ev prog w A env s e (IsI b))
    (hk : env.scope.kind = .function) (hx : env.kindOf x = some .local) (hp : (env.scope.kind == .class || (env.scope.kind == .module && env.locals != env.globals)) = false)
    (h : ∀ t h' tk, Sep h₀ env.locals h' (upd m x (.int (a + b) t)) nw → Q .next { s with heap := h', toks := tk }) : wpC (model prog w) A (exec (.AugAssign (.Name x px) .Add e pos) env) Q s := by
  obtain ⟨t, hm⟩ := hm
  refine wpC_of (wpAny_AugAssign_Name (wpAny_loadName_local hk hx S.F.ns hm (he.use fun v tk ⟨u, hv⟩ => ?_)))
  subst hv
  exact P.iadd_int (Sep.store (s := { s with toks := _ }) S hx hp fun h' tk' S' => h _ h' tk' S')

theorem S_setitem {o i e : Expr} {pos pos' : Pos} {r : Addr} {ns : List Int} {k v : Int} {Q : Flow → Shared → Prop} (S : Sep h₀ env.locals s.heap m ((r, ba ns) :: nw))
    (he : Ev prog w A env s e (IsI v)) (ho : Ev prog w A env s o (IsR r)) (hi : Ev prog w A env s i (IsI k)) (h0 : 0 ≤ k) (hk : k < 2 ^ 63) (hlt : k < ns.length) (hz : ns.length ≤ sizeLine) (hv : 0 ≤ v ∧ v < 256)
    (hs : swapsWith e (some (.Subscript o i pos')) pos.line env = pure false)
    (h : ∀ h' tk, Sep h₀ env.locals h' m ((r, ba (ns.set k.toNat v)) :: nw) → Q .next { s with heap := h', toks := tk }) : wpC (model prog w) A (exec (.Assign [.Subscript o i pos'] e pos) env) Q s :=
  wpC_of (wpAny_Assign_Subscript (he.use fun v' tk ⟨t, e1⟩ => ho.useAt fun ov tk₂ e2 => hi.useAt fun iv tk₃ ⟨u, e3⟩ => by
    subst e1; subst e2; subst e3
    exact ba_setItem (s := { s with toks := tk₃ }) (S.get (.head _)) h0 hk hlt hz hv fun h' hr' hs' => h h' _ (S.turn hs'.extBut hr')) hs)

/-! ### calls -/
theorem C_Call_Name {id : Str} {p pos : Pos} {args : List Expr} {P : Value → Prop} {Q : Value → Shared → Prop} (hf : Ev prog w A env s (.Name id p) P)
    (h : ∀ f tk, P f → wpC (model prog w) A (callWith pos f [] (backTo pos (starEach args env)) []) Q { s with toks := tk }) :
    wpC (model prog w) A (eval (.Call (.Name id p) args [] pos) env) Q s := by
  show wpC _ _ (do callWith pos (← eval (.Name id p) env) [] (backTo pos (starEach args env)) (backToKw pos (keywordEach [] env))) _ _
  exact wpC_bind (wpC_of (hf.use fun v tk hv => h v tk hv))

theorem C_spliced_nil {Q : List Value → Shared → Prop} (h : Q [] s) : wpC (model prog w) A (spliced []) Q s := wpC_pure h
theorem C_spliced_cons {x : Sem Value} {rest : List (Bool × Sem Value)} {Q : List Value → Shared → Prop}
    (h : wpC (model prog w) A x (fun v s₁ => wpC (model prog w) A (spliced rest) (fun vs s₂ => Q (v :: vs) s₂) s₁) s) : wpC (model prog w) A (spliced ((false, x) :: rest)) Q s := by
  rw [spliced]
  refine wpC_bind (wpC_mono h fun v s₁ h₁ => ?_)
  simp only [Bool.false_eq_true, if_false]
  exact wpC_bind (wpC_pure (wpC_bind (wpC_holding (wpC_mono h₁ fun vs s₂ h₂ => wpC_pure h₂))))
theorem C_evalArgs {f : Value} {x : Sem Value} {rest : List (Bool × Sem Value)} {Q : Args → Shared → Prop}
    (h : wpC (model prog w) A (spliced ((false, x) :: rest)) (fun vs s' => Q ⟨vs, []⟩ s') s) : wpC (model prog w) A (evalArgs f true ((false, x) :: rest) []) Q s := by
  unfold evalArgs
  show wpC _ _ (spliced ((false, x) :: rest) >>= _) Q s
  refine wpC_bind (wpC_mono h fun vs s' h' => ?_)
  refine wpC_holding ?_
  exact wpC_bind (wpC_pure (wpC_bind (wpC_pure (wpC_pure h'))))

theorem C_callWith_type {pos : Pos} {T : String} {args : List (Bool × Sem Value)} {Q : Value → Shared → Prop} (hplain : args.any (·.1) = false)
    (h : wpC (model prog w) A (evalArgs (.type T) true args []) (fun a s₁ => wpC (model prog w) A (call (.type T) ([] ++ a.pos) a.kw) Q s₁) s) :
    wpC (model prog w) A (callWith pos (.type T) [] args []) Q s := by
  unfold callWith
  refine wpC_bind (wpC_holding (wpC_mono h fun a s₁ h₁ => wpC_bind (wpC_standAt ?_)))
  simp only [hplain, List.any_nil, Bool.or_false]
  refine wpC_bind (wpC_pure ?_)
  exact wpC_bind (wpC_mono h₁ fun r s₂ hr => wpC_bind (wpC_holding (wpC_of (wpAny_point (wpC_pure hr)))))

theorem wpC_keep {α : Type} {M : Model} {vs : List Value} {t : Sem α} {Q : α → Shared → Prop} (h : wpC M A t Q s) : wpC M A (t.keep vs) Q s :=
  fun Γ p h1 h2 h3 => by rw [Sem.wp_keep]; exact h Γ p h1 h2 h3

theorem C_callWith_fn {pos : Pos} {a : Addr} {o : Obj} {fd : FuncData} {args : List (Bool × Sem Value)} {Q : Value → Shared → Prop} (hplain : args.any (·.1) = false) (hlen : args.length ≤ 30)
    (h : wpC (model prog w) A (evalArgs (.ref a) true args []) (fun x s₁ => (s₁.heap.get? a = some o ∧ o.data = .func fd) ∧ wpC (model prog w) A (call (.ref a) ([] ++ x.pos) x.kw) Q s₁) s) :
    wpC (model prog w) A (callWith pos (.ref a) [] args []) Q s := by
  unfold callWith
  refine wpC_bind (wpC_holding (wpC_mono h fun x s₁ h₁ => wpC_bind (wpC_standAt ?_)))
  simp only [hplain, List.any_nil, Bool.or_false]
  refine wpC_bind (m := keeperOf (.ref a)) (wpC_of ?_)
  unfold keeperOf
  refine wpAny_bind (wpAny_load h₁.1.1 ?_)
  rw [h₁.1.2]
  refine wpAny_pure ?_
  dsimp only
  rw [if_neg (by simp; omega)]
  unfold callMarked
  exact wpC_bind (wpC_keep (wpC_mono h₁.2 fun r s₂ hr => wpC_bind (wpC_holding (wpC_of (wpAny_point (wpC_pure hr))))))

/-- a call of a plain def; some objects that stood before may be turned by it -/
theorem codeC_call_def {name : Str} {params : Arguments} {body : List Stmt} {scope : Scope} {pm cd doc : Value} {a : Addr} {o : Obj} {args : List Value} {binds : List (Str × Value)} {R : Flow → Shared → Prop} (hid : List (Addr × Obj))
    (hroom : A.depth < recursionLimit) (ho : s.heap.get? a = some o) (hdata : o.data = .func (docDef name params body scope pm cd doc)) (hlim : s.heap.NoLimit) (hcd : s.heap.CodeRec cd name)
    (hbind : bindArgs (docDef name params body scope pm cd doc) ⟨args, []⟩ = pure binds) (hloc : ∀ x ∈ binds, scope.names.lookup x.1 = some .local)
    (hh : ∀ p ∈ hid, s.heap.get? p.1 = some p.2) (hD : (hid.map (·.1)).Nodup)
    (h : ∀ h₁ tk, Sep (hideAll s.heap (hid.map (·.1))) s.heap.objs.size h₁ (fun x => binds.reverse.lookup x) hid →
      wpC (model prog w) (A.deeper (envX name scope s.heap.objs.size a cd [])) (execs body (envX name scope s.heap.objs.size a cd []))
        (fun f s' => R (.ret (match f with | .ret v => v | _ => .none)) s') { s with heap := h₁, toks := tk })
    (hco : scope.isCoroutine = false := by rfl) (hgen : scope.isGenerator = false := by rfl) (hk : scope.kind = .function := by rfl) (hcell : ∀ x ∈ scope.names, x.2 ≠ .cell := by decide) :
    codeC (model prog w) A (.call (.ref a) ⟨args, []⟩) R s := by
  refine codeC_of_tree rfl ?_
  show wpC _ A.in1 (callAny (.ref a) ⟨args, []⟩) _ s
  simp only [callAny]
  refine wpC_bind (wpC_of (wpAny_load ho ?_))
  obtain ⟨c, oc, vs, tq, rfl, hoc, hdc, hq⟩ := id hcd
  simp only [hdata, docDef, callFunction, hco, hgen]
  refine wpC_bind (m := field (.ref c) 1) (wpC_of (wpAny_field hoc hdc hq (wpC_bind (wpC_pure ?_))))
  refine wpC_bind (wpC_of_eq hbind ?_)
  refine wpC_bind (wpC_of (wpAny_newFunctionEnv hcell hloc (fun h₁ hns hsb => ?_) hk))
  have hkeep : ∀ b o, s.heap.get? b = some o → h₁.get? b = some o := fun b o e => hsb.extBut b o (Nat.ne_of_lt (Heap.lt_size e)) (Heap.get?_push_of_some _ e)
  refine wpC_bind (wpC_of (wpAny_enterFrame (hlim.fresh _ hsb) hroom ?_))
  refine wpC_pure ⟨rfl, codeC_func (h h₁ _ ⟨⟨hns, fun b o e => hkeep b o (of_hideAll _ e), Nat.le_of_eq (hideAll_size _ _)⟩, fun p hp => ⟨hkeep _ _ (hh p hp), Nat.ne_of_lt (Heap.lt_size (hh p hp)), hideAll_none _ (List.mem_map_of_mem hp)⟩, hD⟩)⟩
end
end Mine

set_option maxRecDepth 100000
namespace Mine
open PySem PySem.W PyProof.Rows PySem.Calls

/-! ## The text's defs, taken out of the row -/
def bodyOf : Option Stmt → List Stmt
  | some (.FunctionDef _ _ b _ _ _ _ _ _ _) => b
  | _ => []
def scopeOf : Option Stmt → Scope
  | some (.FunctionDef _ _ _ _ _ _ sc _ _ _) => sc
  | _ => default
def paramsOf : Option Stmt → Arguments
  | some (.FunctionDef _ a _ _ _ _ _ _ _ _) => a
  | _ => { posonlyargs := [], args := [], vararg := none, kwonlyargs := [], kw_defaults := [], kwarg := none, defaults := [] }
def stmtAt (k : Nat) : Option Stmt := PySem.Challenge.pw_bq0015_01.main.body[k]?

/-! ## What a line is undone to -/
def IsSub (u : Nat) (S out : List Int) : Prop :=
  out.length = S.length ∧ Octets out ∧ ∀ i, i < S.length → out.getD i 0 = if i < u then S.getD i 0 else (S.getD i 0 + out.getD (i - u) 0) % 256
def IsUp (S P out : List Int) : Prop :=
  out.length = S.length ∧ Octets out ∧ ∀ i, i < S.length → out.getD i 0 = (S.getD i 0 + P.getD i 0) % 256

theorem octets_set {l : List Int} {v : Int} (h : Octets l) (hv : 0 ≤ v ∧ v < 256) (i : Nat) : Octets (l.set i v) := fun n hn => by
  rcases List.mem_or_eq_of_mem_set hn with h1 | h1
  · exact h n h1
  · exact h1 ▸ hv
theorem octets_at {l : List Int} (h : Octets l) (i : Nat) : 0 ≤ l.getD i 0 ∧ l.getD i 0 < 256 := by
  rw [List.getD_eq_getElem?_getD]
  cases e : l[i]? with
  | none => simp
  | some v => exact h v (List.mem_of_getElem? e)
theorem getD_at {l : List Int} {i : Nat} (h : i < l.length) : l[i]? = some (l.getD i 0) := by
  rw [List.getD_eq_getElem?_getD, List.getElem?_eq_getElem h]; rfl
theorem getD_set_eq {l : List Int} {i : Nat} {v : Int} (h : i < l.length) : (l.set i v).getD i 0 = v := by
  rw [List.getD_eq_getElem?_getD]; simp [h]
theorem getD_set_ne {l : List Int} {i j : Nat} {v : Int} (h : i ≠ j) : (l.set i v).getD j 0 = l.getD j 0 := by
  simp only [List.getD_eq_getElem?_getD, List.getElem?_set_ne h]

def SubTo (u : Nat) (S : List Int) (t : Nat) (R : List Int) : Prop :=
  R.length = S.length ∧ Octets R ∧ ∀ i, i < S.length → R.getD i 0 = if i < u then S.getD i 0 else if i < u + t then (S.getD i 0 + R.getD (i - u) 0) % 256 else S.getD i 0
theorem SubTo.start {u : Nat} {S : List Int} (h : Octets S) : SubTo u S 0 S := ⟨rfl, h, fun i _ => by by_cases h1 : i < u <;> simp [h1]⟩
theorem SubTo.step {u t : Nat} {S R : List Int} (hu : 0 < u) (ht : u + t < S.length) (h : SubTo u S t R) : SubTo u S (t + 1) (R.set (u + t) ((S.getD (u + t) 0 + R.getD t 0) % 256)) := by
  obtain ⟨h1, h2, h3⟩ := h
  refine ⟨by simpa using h1, octets_set h2 (by omega) _, fun i hi => ?_⟩
  by_cases e : i = u + t
  · subst e
    rw [getD_set_eq (by omega), if_neg (by omega), if_pos (by omega), show u + t - u = t by omega, getD_set_ne (by omega)]
  · rw [getD_set_ne (Ne.symm e), h3 i hi]
    by_cases h4 : i < u
    · simp [h4]
    · rw [if_neg h4, if_neg h4]
      by_cases h5 : i < u + t
      · rw [if_pos h5, if_pos (by omega), getD_set_ne (by omega)]
      · rw [if_neg h5, if_neg (by omega)]
theorem SubTo.done {u t : Nat} {S R : List Int} (h : SubTo u S t R) (ht : S.length ≤ u + t) : IsSub u S R :=
  ⟨h.1, h.2.1, fun i hi => by rw [h.2.2 i hi]; by_cases h1 : i < u <;> simp only [h1, if_true, if_false]; rw [if_pos (by omega)]⟩

def UpTo (S P : List Int) (t : Nat) (R : List Int) : Prop :=
  R.length = S.length ∧ Octets R ∧ ∀ i, i < S.length → R.getD i 0 = if i < t then (S.getD i 0 + P.getD i 0) % 256 else S.getD i 0
theorem UpTo.start {S P : List Int} (h : Octets S) : UpTo S P 0 S := ⟨rfl, h, fun i _ => by simp⟩
theorem UpTo.step {t : Nat} {S P R : List Int} (ht : t < S.length) (h : UpTo S P t R) : UpTo S P (t + 1) (R.set t ((S.getD t 0 + P.getD t 0) % 256)) := by
  obtain ⟨h1, h2, h3⟩ := h
  refine ⟨by simpa using h1, octets_set h2 (by omega) _, fun i hi => ?_⟩
  by_cases e : i = t
  · subst e
    rw [getD_set_eq (by omega), if_pos (by omega)]
  · rw [getD_set_ne (Ne.symm e), h3 i hi]
    by_cases h5 : i < t
    · rw [if_pos h5, if_pos (by omega)]
    · rw [if_neg h5, if_neg (by omega)]
theorem UpTo.done {t : Nat} {S P R : List Int} (h : UpTo S P t R) (ht : S.length ≤ t) : IsUp S P R :=
  ⟨h.1, h.2.1, fun i hi => by rw [h.2.2 i hi, if_pos (by omega)]⟩

section
variable {prog : Program} {w : World} {A : Around} {s : Shared} {mg mb : Str → Option Value}

theorem Ev_len_ba {nm : Str} {sc : Scope} {L fa : Addr} {cd : Value} {cl : List (Str × Addr)} {e : Expr} {p pos : Pos} {r : Addr} {ns : List Int} (R : Root mg mb s.heap) (he : Ev prog w A (envX nm sc L fa cd cl) s e (IsR r)) (hr : s.heap.get? r = some (ba ns)) (hfit : (ns.length : Int) < 2 ^ 63)
    (hk : sc.kind = .function) (hx : (envX nm sc L fa cd cl).kindOf "len" = some .globalImplicit)
    (hse : backTo pos (starEach [e] (envX nm sc L fa cd cl)) = [(false, eval e (envX nm sc L fa cd cl))]) :
    Ev prog w A (envX nm sc L fa cd cl) s (.Call (.Name "len" p) [e] [] pos) (IsI ns.length) := fun tk => by
  refine wpAny_Call_NameR ((Ev_builtin R R.len.1 R.len.2 hk hx (by decide)).useAt fun f tk' hf => ?_)
  subst hf
  rw [hse]
  refine callWith_builtin rfl (evalArgs_plain (spliced_cons (he.useAt fun v tk₂ e' => spliced_nil ?_)))
  subst e'
  exact ba_len (s := { s with toks := _ }) hr hfit ⟨⟨_, rfl⟩, _, rfl⟩

theorem sub_body {nm : Str} {L fa r sc : Addr} {cd : Value} {S : List Int} {u : Nat} {h₀ : Heap} {m : Str → Option Value} {Q : Flow → Shared → Prop} (hh : A.handled = none) (R : Root mg mb h₀) (Sp : Sep h₀ L s.heap m [(r, ba S)])
    (h1 : ∃ t, m "filter_unit" = some (.int u t)) (h2 : m "scanline" = some (.ref sc)) (h4 : m "result" = some (.ref r)) (hsc : h₀.get? sc = some (ba S)) (hoct : Octets S) (hlen : S.length ≤ 100) (hu : 0 < u) (hu2 : u ≤ 3)
    (hQ : ∀ h tk m' out, IsSub u S out → Sep h₀ L h m' [(r, ba out)] → Q .next { s with heap := h, toks := tk }) :
    wpC (model prog w) A (execs (bodyOf (stmtAt 1)) (envX nm (scopeOf (stmtAt 1)) L fa cd [])) Q s := by
  refine C_cons (S_assign Sp Ev_const rfl rfl rfl fun v h' tk ⟨t, e⟩ S₁ => ⟨rfl, ?_⟩)
  subst e
  have m1 : ∀ (y : Str), y ≠ "ai" → upd m "ai" (.int 0 t) y = m y := fun y hy => upd_ne hy
  obtain ⟨t1, h1⟩ := h1
  refine C_one (C_for_range (lo := (u : Int)) (hi := (S.length : Int)) (n := S.length - u) (fun t m nw => ∃ Rt, nw = [(r, ba Rt)] ∧ SubTo u S t Rt ∧ (∃ tk, m "ai" = some (.int t tk)) ∧ m "scanline" = some (.ref sc) ∧ m "result" = some (.ref r)) hh S₁
    ⟨S, rfl, SubTo.start hoct, ⟨t, upd_same _ _ _⟩, by rw [m1 _ (by decide)]; exact h2, by rw [m1 _ (by decide)]; exact h4⟩ ?_ (by omega) (by omega) (by omega) (by omega) (by omega) rfl rfl ?_ ?_)
  · intro Q' hQ'
    exact eval_range2 (Ev_builtin (R.keeps S₁.F.keep) R.range.1 R.range.2) (Ev_localI S₁.F.ns ⟨t1, by rw [m1 _ (by decide)]; exact h1⟩)
      (Ev_len_ba (R.keeps S₁.F.keep) (Ev_local S₁.F.ns (by rw [m1 _ (by decide)]; exact h4)) (S₁.get (.head _)) (by omega) rfl rfl rfl) rfl rfl hQ'
  · rintro i t' m₁ nw₁ p h tk' hi ⟨Rt, rfl, hR, ⟨t2, a1⟩, a2, a3⟩ S₂
    have hlR := hR.1
    have oS := octets_at hoct (u + i)
    have oR := octets_at hR.2.1 i
    have g1 : S[((u : Int) + (i : Nat)).toNat]? = some (S.getD (u + i) 0) := by
      rw [show ((u : Int) + (i : Nat)).toNat = u + i by omega]; exact getD_at (by omega)
    have g2 : Rt[((i : Nat) : Int).toNat]? = some (Rt.getD i 0) := by
      rw [show ((i : Nat) : Int).toNat = i by omega]; exact getD_at (by omega)
    -- x = scanline[i]
    refine C_cons (S_assign S₂ (P := IsI (S.getD (u + i) 0)) (Ev_ba (Ev_local S₂.F.ns (by rw [upd_ne (by decide)]; exact a2)) (Ev_localI S₂.F.ns ⟨t', upd_same _ _ _⟩) (S₂.base hsc) (by omega) (by omega) g1 oS) rfl rfl rfl fun v h₃ tk₃ ⟨t3, e⟩ S₃ => ⟨rfl, ?_⟩)
    subst e
    -- a = result[ai]
    refine C_cons (S_assign S₃ (P := IsI (Rt.getD i 0)) (Ev_ba (Ev_local S₃.F.ns (by rw [upd_ne (by decide), upd_ne (by decide)]; exact a3)) (Ev_localI S₃.F.ns ⟨t2, by rw [upd_ne (by decide), upd_ne (by decide)]; exact a1⟩) (S₃.get (.tail _ (.head _))) (by omega) (by omega) g2 oR) rfl rfl rfl fun v h₄ tk₄ ⟨t4, e⟩ S₄ => ⟨rfl, ?_⟩)
    subst e
    -- result[i] = x + a & 255
    have S₄' := S₄.perm (nw' := [(r, ba Rt), p]) (List.Perm.swap ..)
    refine C_cons (S_setitem (k := (u : Int) + (i : Nat)) S₄' (Ev_and (Ev_add (Ev_localI (i := S.getD (u + i) 0) S₄.F.ns ⟨t3, by rw [upd_ne (by decide), upd_same]⟩) (Ev_localI (i := Rt.getD i 0) S₄.F.ns ⟨t4, upd_same _ _ _⟩)) Ev_const) (Ev_local S₄.F.ns (by rw [upd_ne (by decide), upd_ne (by decide), upd_ne (by decide)]; exact a3))
      (Ev_localI S₄.F.ns ⟨t', by rw [upd_ne (by decide), upd_ne (by decide), upd_same]⟩) (by omega) (by omega) (by omega) (by rw [sizeLine_eq]; omega) (by rw [bitAnd_m8]; omega) rfl fun h₅ tk₅ S₅ => ⟨rfl, ?_⟩)
    rw [bitAnd_m8, show ((u : Int) + (i : Nat)).toNat = u + i by omega] at S₅
    -- ai += 1
    refine C_one (S_augadd S₅ (a := i) ⟨t2, by rw [upd_ne (by decide), upd_ne (by decide), upd_ne (by decide)]; exact a1⟩ Ev_const rfl rfl rfl fun t6 h₆ tk₆ S₆ => ⟨rfl, h₆, tk₆, _, _, rfl, S₆.perm (List.Perm.swap ..), _, rfl, hR.step hu (by omega), ⟨t6, ?_⟩, ?_, ?_⟩)
    · rw [upd_same]; rfl
    · rw [upd_ne (by decide), upd_ne (by decide), upd_ne (by decide), upd_ne (by decide)]; exact a2
    · rw [upd_ne (by decide), upd_ne (by decide), upd_ne (by decide), upd_ne (by decide)]; exact a3
  · rintro h tk' m₁ nw₁ ⟨Rt, rfl, hR, _⟩ S₂
    exact hQ h tk' m₁ Rt (hR.done (by omega)) S₂

theorem up_body {nm : Str} {L fa r sc pv : Addr} {cd : Value} {S P : List Int} {h₀ : Heap} {m : Str → Option Value} {Q : Flow → Shared → Prop} (hh : A.handled = none) (R : Root mg mb h₀) (Sp : Sep h₀ L s.heap m [(r, ba S)])
    (h2 : m "scanline" = some (.ref sc)) (h3 : m "previous" = some (.ref pv)) (h4 : m "result" = some (.ref r)) (hsc : h₀.get? sc = some (ba S)) (hpv : h₀.get? pv = some (ba P)) (hoct : Octets S) (hoctP : Octets P) (hlen : S.length ≤ 100) (hP : P.length = S.length)
    (hQ : ∀ h tk m' out, IsUp S P out → Sep h₀ L h m' [(r, ba out)] → Q .next { s with heap := h, toks := tk }) :
    wpC (model prog w) A (execs (bodyOf (stmtAt 2)) (envX nm (scopeOf (stmtAt 2)) L fa cd [])) Q s := by
  refine C_one (C_for_range (lo := 0) (hi := (S.length : Int)) (n := S.length) (fun t m nw => ∃ Rt, nw = [(r, ba Rt)] ∧ UpTo S P t Rt ∧ m "scanline" = some (.ref sc) ∧ m "previous" = some (.ref pv) ∧ m "result" = some (.ref r)) hh Sp
    ⟨S, rfl, UpTo.start hoct, h2, h3, h4⟩ ?_ (by omega) (by omega) (by omega) (by omega) (by omega) rfl rfl ?_ ?_)
  · intro Q' hQ'
    exact eval_range1 (Ev_builtin (R.keeps Sp.F.keep) R.range.1 R.range.2)
      (Ev_len_ba (R.keeps Sp.F.keep) (Ev_local Sp.F.ns h4) (Sp.get (.head _)) (by omega) rfl rfl rfl) rfl rfl hQ'
  · rintro i t' m₁ nw₁ p h tk' hi ⟨Rt, rfl, hR, a2, a5, a3⟩ S₂
    have hlR := hR.1
    have oS := octets_at hoct i
    have oP := octets_at hoctP i
    have e0 : ((0 : Int) + (i : Nat)).toNat = i := by omega
    have g1 : S[((0 : Int) + (i : Nat)).toNat]? = some (S.getD i 0) := by rw [e0]; exact getD_at (by omega)
    have g2 : P[((0 : Int) + (i : Nat)).toNat]? = some (P.getD i 0) := by rw [e0]; exact getD_at (by omega)
    refine C_cons (S_assign S₂ (P := IsI (S.getD i 0)) (Ev_ba (Ev_local S₂.F.ns (by rw [upd_ne (by decide)]; exact a2)) (Ev_localI S₂.F.ns ⟨t', upd_same _ _ _⟩) (S₂.base hsc) (by omega) (by omega) g1 oS) rfl rfl rfl fun v h₃ tk₃ ⟨t3, e⟩ S₃ => ⟨rfl, ?_⟩)
    subst e
    refine C_cons (S_assign S₃ (P := IsI (P.getD i 0)) (Ev_ba (Ev_local S₃.F.ns (by rw [upd_ne (by decide), upd_ne (by decide)]; exact a5)) (Ev_localI S₃.F.ns ⟨t', by rw [upd_ne (by decide), upd_same]⟩) (S₃.base hpv) (by omega) (by omega) g2 oP) rfl rfl rfl fun v h₄ tk₄ ⟨t4, e⟩ S₄ => ⟨rfl, ?_⟩)
    subst e
    have S₄' := S₄.perm (nw' := [(r, ba Rt), p]) (List.Perm.swap ..)
    refine C_one (S_setitem (k := (0 : Int) + (i : Nat)) S₄' (Ev_and (Ev_add (Ev_localI (i := S.getD i 0) S₄.F.ns ⟨t3, by rw [upd_ne (by decide), upd_same]⟩) (Ev_localI (i := P.getD i 0) S₄.F.ns ⟨t4, upd_same _ _ _⟩)) Ev_const) (Ev_local S₄.F.ns (by rw [upd_ne (by decide), upd_ne (by decide), upd_ne (by decide)]; exact a3))
      (Ev_localI S₄.F.ns ⟨t', by rw [upd_ne (by decide), upd_ne (by decide), upd_same]⟩) (by omega) (by omega) (by omega) (by rw [sizeLine_eq]; omega) (by rw [bitAnd_m8]; omega) rfl fun h₅ tk₅ S₅ => ⟨rfl, h₅, tk₅, _, _, rfl, S₅.perm (List.Perm.swap ..), _, ?_, hR.step (by omega), ?_, ?_, ?_⟩)
    · rw [bitAnd_m8, e0]
    · rw [upd_ne (by decide), upd_ne (by decide), upd_ne (by decide)]; exact a2
    · rw [upd_ne (by decide), upd_ne (by decide), upd_ne (by decide)]; exact a5
    · rw [upd_ne (by decide), upd_ne (by decide), upd_ne (by decide)]; exact a3
  · rintro h tk' m₁ nw₁ ⟨Rt, rfl, hR, _⟩ S₂
    exact hQ h tk' m₁ Rt (hR.done (by omega)) S₂

/-! ### the calls -/
theorem root_hidden {h : Heap} {r : Addr} {g : Heap} (R : Root mg mb g) (hk : ∀ b o, g.get? b = some o → h.get? b = some o) (hr : g.get? r = none) : Root mg mb (hideAll h [r]) :=
  R.keeps fun b o e => hideAll_get _ (hk b o e) (fun hm => by rw [List.mem_singleton.mp hm, hr] at e; cases e)

theorem call_sub {g : Heap} {fa : Addr} {o : Obj} {pm cd doc pv : Value} {t : Tok} {r sc : Addr} {S : List Int} {u : Nat} {Q : Value → Shared → Prop} (hh : A.handled = none) (hroom : A.depth < recursionLimit) (R : Root mg mb g) (hk : ∀ b o, g.get? b = some o → s.heap.get? b = some o) (hr0 : g.get? r = none)
    (ho : s.heap.get? fa = some o) (hd : o.data = .func (docDef "undo_filter_sub" (paramsOf (stmtAt 1)) (bodyOf (stmtAt 1)) (scopeOf (stmtAt 1)) pm cd doc)) (hcd : s.heap.CodeRec cd "undo_filter_sub")
    (hr : s.heap.get? r = some (ba S)) (hsc : s.heap.get? sc = some (ba S)) (hne : sc ≠ r) (hoct : Octets S) (hlen : S.length ≤ 100) (hu : 0 < u) (hu2 : u ≤ 3)
    (hQ : ∀ h tk out, IsSub u S out → h.get? r = some (ba out) → Heap.ExtBut r s.heap h → Q .none { s with heap := h, toks := tk }) :
    wpC (model prog w) A (call (.ref fa) [.int u t, .ref sc, pv, .ref r]) Q s := by
  refine wpC_call (codeC_call_def (binds := [("filter_unit", .int u t), ("scanline", .ref sc), ("previous", pv), ("result", .ref r)]) [(r, ba S)] hroom ho hd (R.nl.keeps hk) hcd rfl (locs rfl) (fun p hp => by rw [List.mem_singleton.mp hp]; exact hr) (by simp) ?_ rfl rfl rfl (by decide))
  intro h₁ tk S₁
  refine sub_body (S := S) (u := u) (r := r) (sc := sc) (A := A.deeper _) hh (root_hidden R hk hr0) S₁ ⟨t, rfl⟩ rfl rfl (hideAll_get _ hsc (by simpa using hne)) hoct hlen hu hu2 ?_
  intro h tk m' out hout S₂
  exact ⟨_, rfl, hQ h tk out hout (S₂.get (.head _)) fun b o hb e => S₂.base (hideAll_get _ e (by simpa using hb))⟩

theorem call_up {g : Heap} {fa : Addr} {o : Obj} {pm cd doc uv : Value} {r sc pv : Addr} {S P : List Int} {Q : Value → Shared → Prop} (hh : A.handled = none) (hroom : A.depth < recursionLimit) (R : Root mg mb g) (hk : ∀ b o, g.get? b = some o → s.heap.get? b = some o) (hr0 : g.get? r = none)
    (ho : s.heap.get? fa = some o) (hd : o.data = .func (docDef "undo_filter_up" (paramsOf (stmtAt 2)) (bodyOf (stmtAt 2)) (scopeOf (stmtAt 2)) pm cd doc)) (hcd : s.heap.CodeRec cd "undo_filter_up")
    (hr : s.heap.get? r = some (ba S)) (hsc : s.heap.get? sc = some (ba S)) (hpv : s.heap.get? pv = some (ba P)) (hne : sc ≠ r) (hne2 : pv ≠ r) (hoct : Octets S) (hoctP : Octets P) (hlen : S.length ≤ 100) (hP : P.length = S.length)
    (hQ : ∀ h tk out, IsUp S P out → h.get? r = some (ba out) → Heap.ExtBut r s.heap h → Q .none { s with heap := h, toks := tk }) :
    wpC (model prog w) A (call (.ref fa) [uv, .ref sc, .ref pv, .ref r]) Q s := by
  refine wpC_call (codeC_call_def (binds := [("filter_unit", uv), ("scanline", .ref sc), ("previous", .ref pv), ("result", .ref r)]) [(r, ba S)] hroom ho hd (R.nl.keeps hk) hcd rfl (locs rfl) (fun p hp => by rw [List.mem_singleton.mp hp]; exact hr) (by simp) ?_ rfl rfl rfl (by decide))
  intro h₁ tk S₁
  refine up_body (S := S) (P := P) (r := r) (sc := sc) (pv := pv) (A := A.deeper _) hh (root_hidden R hk hr0) S₁ rfl rfl rfl (hideAll_get _ hsc (by simpa using hne)) (hideAll_get _ hpv (by simpa using hne2)) hoct hoctP hlen hP ?_
  intro h tk m' out hout S₂
  exact ⟨_, rfl, hQ h tk out hout (S₂.get (.head _)) fun b o hb e => S₂.base (hideAll_get _ e (by simpa using hb))⟩
end
end Mine

set_option maxRecDepth 100000
namespace Mine
open PySem PySem.W PyProof.Rows PySem.Calls

/-- the ways to take k things of m sorts -/
def pre (f : Nat → Nat) : Nat → Nat
  | 0 => f 0
  | k + 1 => pre f k + f (k + 1)
def W : Nat → Nat → Nat
  | 0 => fun k => if k = 0 then 1 else 0
  | m + 1 => pre (W m)
theorem W_zero (m : Nat) : W m 0 = 1 := by
  induction m with
  | zero => rfl
  | succ m ih => exact ih
theorem W_succ (m k : Nat) : W (m + 1) (k + 1) = W (m + 1) k + W m (k + 1) := rfl
theorem W_next : ∀ m, m < 7 → ∀ k, k < 3 → W m k * (m + k) / (k + 1) = W m (k + 1) := by decide
theorem W_small : ∀ m, m < 7 → ∀ k, k < 4 → W m k < 100 := by decide
def Ws (m n : Nat) : List Int := (List.range n).map fun k => (W m k : Int)
theorem Ws_len (m n : Nat) : (Ws m n).length = n := by simp [Ws]
theorem Ws_succ (m n : Nat) : Ws m (n + 1) = Ws m n ++ [(W m n : Int)] := by simp [Ws, List.range_succ]
theorem Ws_get {m n k : Nat} (h : k < n) : (Ws m n)[k]? = some (W m k : Int) := by simp [Ws, h]

section
variable {prog : Program} {w : World} {A : Around} {env : Env} {s : Shared} {h₀ : Heap} {m : Str → Option Value} {nw : List (Addr × Obj)}
theorem Ev_div {l r : Expr} {pos : Pos} {a b : Int} (hl : Ev prog w A env s l (IsI a)) (hr : Ev prog w A env s r (IsI b)) (h0 : 0 < b) (h1 : b < 1073741824) : Ev prog w A env s (.BinOp l .FloorDiv r pos) (IsI (a / b)) := by
  have := Ev_fdiv (pos := pos) hl hr (by omega) (PyProof.noPylong_small (by omega))
  rwa [Int.fdiv_eq_ediv_of_nonneg _ (by omega)] at this
theorem Ev_emod {l r : Expr} {pos : Pos} {a b : Int} (hl : Ev prog w A env s l (IsI a)) (hr : Ev prog w A env s r (IsI b)) (h0 : 0 < b) : Ev prog w A env s (.BinOp l .Mod r pos) (IsI (a % b)) := by
  have := Ev_mod (pos := pos) hl hr (by omega)
  rwa [Int.fmod_eq_emod_of_nonneg _ (by omega)] at this
theorem mulOk_left {a b : Int} (h1 : -(2 ^ 64) < a) (h2 : a < 2 ^ 64) : IntMulOk a b := IntMulOk.of_left (intBits_le_64 h1 h2)

theorem Ev_neg1 {k : Nat} {p pos : Pos} : Ev prog w A env s (.UnaryOp .USub (.Constant (.int 1) k p) pos) (IsI (-1)) :=
  fun _ => wpAny_UnaryOp (wpAny_Constant_int (P.neg_int ⟨⟨_, rfl⟩, _, rfl⟩))

theorem Ev_last {o i : Expr} {pos : Pos} {a : Addr} {vs : List Value} {n : Nat} {v : Value} {P : Value → Prop} (ho : Ev prog w A env s o (IsR a)) (hi : Ev prog w A env s i (IsI (-1)))
    (hl : s.heap.get? a = some (lst vs n)) (hx : vs[vs.length - 1]? = some v) (hP : P v)
    (hs : ∀ u, subscripted i false (.ref a) (.int (-1) u) = operate [.ref a, .int (-1) u] (getItem (.ref a) (.int (-1) u)) := by intro _; with_unfolding_all rfl) :
    Ev prog w A env s (.Subscript o i pos) P := fun _ =>
  Subscript_ (ho.useAt fun vo _ e => hi.useAt fun vi _ ⟨u, e'⟩ => by
    subst e; subst e'
    have hl' : s.heap.IsList a vs.toArray := ⟨_, hl, rfl, n, rfl⟩
    have hpos : 0 < vs.length := by have := (List.getElem?_eq_some_iff.mp hx).1; omega
    refine tail_any (T := "list") (s := { s with toks := _ }) ⟨_, hl, rfl⟩ slot_list_getitem.lookup (wpAny_getItem_list_neg (s := { s with toks := _ }) hl' (by decide) (by simp; omega) (by decide) ?_ ⟨hP, _, rfl⟩) (hs u)
    rw [show (-1 + (vs.toArray.size : Int)).toNat = vs.length - 1 by simp; omega]
    simpa using hx)

/-- xs.append(e) -/
theorem S_append {xs : Str} {xp ap pos epos : Pos} {e : Expr} {l : Addr} {pl : Sem Bool} {Q : Flow → Shared → Prop} (hxs : Ev prog w A env s (.Name xs xp) (IsR l)) (hl : ∃ vs n, s.heap.get? l = some (lst vs n))
    (he : ∀ tk, wpAny (model prog w) A (eval e env) (fun v s₁ => ∃ h₀ m nw vs n, Sep h₀ env.locals s₁.heap m ((l, lst vs n) :: nw) ∧ vs.length ≤ 1000 ∧
      ∀ h' tk n', Sep h₀ env.locals h' m ((l, lst (vs ++ [v]) n') :: nw) → Q .next { s₁ with heap := h', toks := tk }) NoE { s with toks := tk })
    (hse0 : starEach [e] env = (false, eval e env) :: starEach [] env) (hse : backTo pos (starEach [e] env) = [(false, eval e env)])
    (hev : eval (.Call (.Attribute (.Name xs xp) "append" ap) [e] [] pos) env = (do
      let ov ← eval (.Name xs xp) env
      standAt ap.atName
      let (f, first) ← holding [ov] (getMethod ov "append" pl)
      callWith pos f first (backTo pos (starEach [e] env)) []))
    (hi : interactive env = false) (hs : swapsWith (.Call (.Attribute (.Name xs xp) "append" ap) [e] [] pos) none epos.line env = pure false) :
    wpC (model prog w) A (exec (.Expr (.Call (.Attribute (.Name xs xp) "append" ap) [e] [] pos) epos) env) Q s := by
  obtain ⟨vs₀, n₀, hl⟩ := hl
  refine wpC_of (wpAny_Expr (MethodCall_ (pl := pl) (hxs.use fun ov tk e' => ?_) hev) hi hs)
  subst e'
  refine getMethod_list_append (s := { s with toks := tk }) hl rfl rfl ?_
  refine callWith_method1 ?_ hse0 rfl
  rw [hse]
  refine spliced_cons (wpAny_mono (he tk) (fun v s₁ h₁ => spliced_nil ?_) fun _ _ x => x)
  obtain ⟨h₀, m, nw, vs, n, S, hz, hQ⟩ := h₁
  refine wpAny_list_append_plain ⟨n, S.get (.head _)⟩ (fun h' hp hs' => ?_) (by rw [sizeLine_eq]; simp; omega)
  obtain ⟨n', hp⟩ := hp
  refine hQ h' _ n' (S.turn hs'.extBut ?_)
  rw [hp]; simp

variable {mg mb : Str → Option Value}
/-- a list display whose items turn nothing -/
theorem eval_list1 {e : Expr} {pos : Pos} {P : Value → Prop} {Q : Value → Shared → Prop} (he : Ev prog w A env s e P)
    (hse : backTo pos (starEach [e] env) = [(false, eval e env)])
    (hQ : ∀ v tk, P v → Q (.ref s.heap.objs.size) { s with heap := s.heap.push (lst [v] 0), toks := tk }) : wpAny (model prog w) A (eval (.List [e] pos) env) Q NoE s := by
  refine List_ ?_
  rw [hse]
  refine spliced_cons (he.use fun v tk hv => spliced_nil ?_)
  exact wpAny_newObj_type (hQ v tk hv)

theorem weights_body {nm : Str} {L fa : Addr} {cd : Value} {a n : Nat} {h₀ : Heap} {m : Str → Option Value} {Q : Flow → Shared → Prop} (hh : A.handled = none) (R : Root mg mb h₀) (Sp : Sep h₀ L s.heap m [])
    (h1 : ∃ t, m "many" = some (.int a t)) (h2 : ∃ t, m "size" = some (.int n t)) (ha : a < 7) (hn : 1 ≤ n) (hn2 : n ≤ 4)
    (hQ : ∀ h tk m' l vs ne, IntsAre vs (Ws a n) → Sep h₀ L h m' [(l, lst vs ne)] → Q (.ret (.ref l)) { s with heap := h, toks := tk }) :
    wpC (model prog w) A (execs (bodyOf (stmtAt 4)) (envX nm (scopeOf (stmtAt 4)) L fa cd [])) Q s := by
  refine C_cons (S_assignC rfl rfl rfl (wpC_of (eval_list1 Ev_const rfl fun v tk ⟨t, e⟩ => ⟨h₀, m, _, Sp.push _, fun h' tk' S₁ => ⟨rfl, ?_⟩⟩)))
  subst e
  generalize s.heap.objs.size = l at S₁ ⊢
  refine C_cons (C_for_range (lo := 1) (hi := (n : Int)) (n := n - 1) (fun t m nw => ∃ vs ne, nw = [(l, lst vs ne)] ∧ IntsAre vs (Ws a (t + 1)) ∧ m "numbers" = some (.ref l) ∧ ∃ tk, m "many" = some (.int a tk)) hh S₁
    ⟨[.int 1 t], 0, rfl, by show IntsAre _ [((W a 0 : Nat) : Int)]; rw [W_zero]; exact .cons _ _ .nil, upd_same _ _ _, by rw [upd_ne (by decide)]; exact h1⟩ ?_ (by omega) (by omega) (by omega) (by omega) (by omega) rfl rfl ?_ ?_)
  · intro Q' hQ'
    exact eval_range2 (Ev_builtin (R.keeps S₁.F.keep) R.range.1 R.range.2) Ev_const (Ev_localI S₁.F.ns (by rw [upd_ne (by decide)]; exact h2)) rfl rfl hQ'
  · rintro i t' m₁ nw₁ p h tk₁ hi ⟨vs, ne, rfl, hI, a1, a2⟩ S₂
    have hlen : vs.length = i + 1 := by rw [hI.length, Ws_len]
    have S₂' := S₂.perm (nw' := [(l, lst vs ne), p]) (List.Perm.swap ..)
    have e1 : (1 : Int) + (i : Nat) = ((i + 1 : Nat) : Int) := by omega
    obtain ⟨vx, hx⟩ : ∃ v, vs[i]? = some v := ⟨_, List.getElem?_eq_getElem (by omega)⟩
    obtain ⟨nx, tx, ex, hnx⟩ := IntsAre.at hI i _ hx
    rw [show i = vs.length - 1 by omega] at hx
    rw [Ws_get (by omega)] at hnx
    obtain rfl : ((W a i : Nat) : Int) = nx := Option.some.inj hnx
    have hw := W_small a ha i (by omega)
    have hnext := W_next a ha i (by omega)
    refine C_one (S_append (Ev_local S₂.F.ns (by rw [upd_ne (by decide)]; exact a1)) ⟨vs, ne, S₂.get (.tail _ (.head _))⟩ (fun tk₂ => ?_) rfl rfl rfl rfl rfl)
    refine Ev.useAt (s := { s with heap := h, toks := tk₁ }) (P := IsI (((W a i : Nat) : Int) * (((a : Nat) : Int) + (1 + (i : Nat)) - 1) / (1 + (i : Nat))))
      (Ev_div (Ev_mul (Ev_last (P := IsI ((W a i : Nat) : Int)) (Ev_local S₂.F.ns (by rw [upd_ne (by decide)]; exact a1)) Ev_neg1 (S₂.get (.tail _ (.head _))) hx ⟨tx, ex⟩)
        (Ev_sub (Ev_add (Ev_localI (i := (a : Int)) S₂.F.ns (by rw [upd_ne (by decide)]; exact a2)) (Ev_localI (i := 1 + (i : Nat)) S₂.F.ns ⟨t', upd_same _ _ _⟩)) Ev_const) (mulOk_left (by omega) (by omega)))
        (Ev_localI (i := 1 + (i : Nat)) S₂.F.ns ⟨t', upd_same _ _ _⟩) (by omega) (by omega)) ?_
    refine fun v tk₃ ⟨t5, e5⟩ => ⟨h₀, _, _, vs, ne, S₂', by omega, fun h₄ tk₄ n' S₄ => ⟨rfl, h₄, tk₄, _, _, rfl, S₄.perm (List.Perm.swap ..), _, n', rfl, ?_, ?_, ?_⟩⟩
    · subst e5
      rw [Ws_succ]
      refine hI.append ?_
      have : ((W a i : Nat) : Int) * (((a : Nat) : Int) + (1 + (i : Nat)) - 1) / (1 + (i : Nat)) = ((W a (i + 1) : Nat) : Int) := by
        rw [← hnext]
        push_cast
        congr 1
        congr 1; omega
      rw [this]
      exact .cons _ _ .nil
    · rw [upd_ne (by decide)]; exact a1
    · rw [upd_ne (by decide)]; exact a2
  · rintro h tk₁ m₁ nw₁ ⟨vs, ne, rfl, hI, a1, a2⟩ S₂
    rw [show n - 1 + 1 = n by omega] at hI
    refine ⟨rfl, C_one (wpC_of (wpAny_Return_some ((Ev_local S₂.F.ns a1).use fun v tk₂ e => ?_)))⟩
    subst e
    exact hQ h tk₂ m₁ l vs ne hI S₂

theorem call_weights {g : Heap} {fa : Addr} {o : Obj} {pm cd doc : Value} {t u : Tok} {a n : Nat} {Q : Value → Shared → Prop} (hh : A.handled = none) (hroom : A.depth < recursionLimit) (R : Root mg mb g) (hk : ∀ b o, g.get? b = some o → s.heap.get? b = some o)
    (ho : s.heap.get? fa = some o) (hd : o.data = .func (docDef "_law_weights" (paramsOf (stmtAt 4)) (bodyOf (stmtAt 4)) (scopeOf (stmtAt 4)) pm cd doc)) (hcd : s.heap.CodeRec cd "_law_weights")
    (ha : a < 7) (hn : 1 ≤ n) (hn2 : n ≤ 4)
    (hQ : ∀ h tk l vs ne, IntsAre vs (Ws a n) → s.heap.get? l = none → h.get? l = some (lst vs ne) → (∀ b o, s.heap.get? b = some o → h.get? b = some o) → Q (.ref l) { s with heap := h, toks := tk }) :
    wpC (model prog w) A (call (.ref fa) [.int a t, .int n u]) Q s := by
  refine wpC_call (codeC_call_def (binds := [("many", .int a t), ("size", .int n u)]) [] hroom ho hd (R.nl.keeps hk) hcd rfl (locs rfl) (fun p hp => nomatch hp) (by simp) ?_ rfl rfl rfl (by decide))
  intro h₁ tk S₁
  refine weights_body (a := a) (n := n) (A := A.deeper _) hh (R.keeps fun b o e => hideAll_get _ (hk b o e) (by simp)) S₁ ⟨t, rfl⟩ ⟨u, rfl⟩ ha hn hn2 ?_
  intro h tk m' l vs ne hI S₂
  refine ⟨_, rfl, hQ h tk l vs ne hI ?_ (S₂.get (.head _)) fun b o e => S₂.base (hideAll_get _ e (by simp))⟩
  have := (S₂.N _ (.head _)).2.2
  cases e : s.heap.get? l with
  | none => rfl
  | some o => rw [hideAll_get _ e (by simp)] at this; cases this
end
end Mine

namespace Mine

/-! ## The plain law -/
def sumN : Nat → (Nat → Int) → Int
  | 0, _ => 0
  | n + 1, g => sumN n g + g n
theorem sumN_congr {n : Nat} {g g' : Nat → Int} (h : ∀ i, i < n → g i = g' i) : sumN n g = sumN n g' := by
  induction n with
  | zero => rfl
  | succ n ih => rw [sumN, sumN, ih fun i hi => h i (by omega), h n (by omega)]
theorem sumN_add (n : Nat) (g g' : Nat → Int) : sumN n (fun i => g i + g' i) = sumN n g + sumN n g' := by
  induction n with
  | zero => rfl
  | succ n ih => simp only [sumN, ih]; omega
theorem sumN_mul (n : Nat) (c : Int) (g : Nat → Int) : sumN n (fun i => c * g i) = c * sumN n g := by
  induction n with
  | zero => simp [sumN]
  | succ n ih => simp only [sumN, ih, Int.mul_add]
theorem sumN_first (n : Nat) (g : Nat → Int) : sumN (n + 1) g = g 0 + sumN n (fun i => g (i + 1)) := by
  induction n with
  | zero => simp [sumN]
  | succ n ih => rw [sumN, ih]; simp only [sumN]; omega

/-- each counts as often as there are ways to take that many things -/
def along (u a : Nat) (g : Nat → Int) (x : Nat) : Int := sumN (x / u + 1) fun i => (W a i : Int) * g (x - i * u)
theorem along_zero {u : Nat} (g : Nat → Int) (x : Nat) : along u 0 g x = g x := by
  unfold along
  rw [sumN_first]
  have : sumN (x / u) (fun i => (W 0 (i + 1) : Int) * g (x - (i + 1) * u)) = 0 := by
    have e : sumN (x / u) (fun i => (W 0 (i + 1) : Int) * g (x - (i + 1) * u)) = sumN (x / u) (fun _ => (0 : Int) * 0) := sumN_congr fun i _ => by
      have : W 0 (i + 1) = 0 := rfl
      rw [this]; simp
    rw [e, sumN_mul]; simp
  rw [this, W_zero]; simp
theorem along_small {u a : Nat} {x : Nat} (g : Nat → Int) (h : x < u) : along u a g x = g x := by
  unfold along
  rw [Nat.div_eq_of_lt h]
  simp [sumN, W_zero]
theorem along_step {u a : Nat} {x : Nat} (g : Nat → Int) (hu : 0 < u) (h : u ≤ x) : along u (a + 1) g x = along u a g x + along u (a + 1) g (x - u) := by
  unfold along
  have hq : x / u = (x - u) / u + 1 := by
    rw [Nat.div_eq_sub_div hu h]
  rw [hq, sumN_first, sumN_first ((x - u) / u + 1) (fun i => (W a i : Int) * g (x - i * u))]
  rw [W_zero, W_zero]
  have e : sumN ((x - u) / u + 1) (fun i => (W (a + 1) (i + 1) : Int) * g (x - (i + 1) * u)) =
      sumN ((x - u) / u + 1) (fun i => (W a (i + 1) : Int) * g (x - (i + 1) * u)) + sumN ((x - u) / u + 1) (fun i => (W (a + 1) i : Int) * g (x - u - i * u)) := by
    rw [← sumN_add]
    refine sumN_congr fun i _ => ?_
    have e1 : x - u - i * u = x - (i + 1) * u := by rw [Nat.add_mul, Nat.one_mul]; omega
    rw [e1, W_succ]
    push_cast
    rw [Int.add_mul]; omega
  rw [e]
  omega

def T (f : Nat → Nat → Int) (u a b y x : Nat) : Int := sumN (y + 1) fun j => sumN (x / u + 1) fun i => (W b j : Int) * (W a i : Int) * f (y - j) (x - i * u)
theorem T_eq (f : Nat → Nat → Int) (u a b y x : Nat) : T f u a b y x = along 1 b (fun y' => along u a (f y') x) y := by
  unfold T along
  rw [Nat.div_one]
  refine sumN_congr fun j _ => ?_
  rw [Nat.mul_one, ← sumN_mul]
  exact sumN_congr fun i _ => by rw [Int.mul_assoc]
theorem along_congr {u a : Nat} {g g' : Nat → Int} {x : Nat} (h : ∀ x', x' ≤ x → g x' = g' x') : along u a g x = along u a g' x :=
  sumN_congr fun i _ => by rw [h _ (Nat.sub_le _ _)]
theorem along_add {u a : Nat} (g g' : Nat → Int) (x : Nat) : along u a (fun x' => g x' + g' x') x = along u a g x + along u a g' x := by
  unfold along
  rw [← sumN_add]
  exact sumN_congr fun i _ => by rw [Int.mul_add]
theorem T_zero (f : Nat → Nat → Int) (u y x : Nat) : T f u 0 0 y x = f y x := by rw [T_eq, along_zero, along_zero]
theorem T_sub_small {f : Nat → Nat → Int} {u a b y x : Nat} (h : x < u) : T f u (a + 1) b y x = T f u a b y x := by
  rw [T_eq, T_eq]
  exact along_congr fun y' _ => by rw [along_small _ h, along_small _ h]
theorem T_sub {f : Nat → Nat → Int} {u a b y x : Nat} (hu : 0 < u) (h : u ≤ x) : T f u (a + 1) b y x = T f u a b y x + T f u (a + 1) b y (x - u) := by
  rw [T_eq, T_eq, T_eq, ← along_add]
  exact along_congr fun y' _ => along_step _ hu h
theorem T_up_first {f : Nat → Nat → Int} {u a b x : Nat} : T f u a (b + 1) 0 x = T f u a b 0 x := by
  rw [T_eq, T_eq, along_small (u := 1) (x := 0) _ (by decide), along_small (u := 1) (x := 0) _ (by decide)]
theorem T_up {f : Nat → Nat → Int} {u a b y x : Nat} : T f u a (b + 1) (y + 1) x = T f u a b (y + 1) x + T f u a (b + 1) y x := by
  rw [T_eq, T_eq, T_eq, along_step _ (by decide) (by omega)]
  simp

/-- the lines behind a deeds «sub» and b deeds «up» -/
def Inv (f : Nat → Nat → Int) (u a b n : Nat) (rows : List (List Int)) : Prop :=
  ∀ y, y < rows.length → ∀ x, x < n → (rows.getD y []).getD x 0 = T f u a b y x % 256

def Sized (n : Nat) (rows : List (List Int)) : Prop := ∀ l ∈ rows, l.length = n ∧ Octets l

theorem Sized.at {n : Nat} {rows : List (List Int)} (h : Sized n rows) {y : Nat} (hy : y < rows.length) : (rows.getD y []).length = n ∧ Octets (rows.getD y []) := by
  rw [List.getD_eq_getElem?_getD, List.getElem?_eq_getElem hy]
  exact h _ (List.getElem_mem hy)

theorem inv_start {f : Nat → Nat → Int} {u n : Nat} {rows : List (List Int)} (hs : Sized n rows) (hf : ∀ y, y < rows.length → ∀ x, x < n → f y x = (rows.getD y []).getD x 0) : Inv f u 0 0 n rows := fun y hy x hx => by
  rw [T_zero, hf y hy x hx]
  have := octets_at (hs.at hy).2 x
  omega
theorem inv_sub {f : Nat → Nat → Int} {u a b n : Nat} {rows outs : List (List Int)} (hu : 0 < u) (h : Inv f u a b n rows) (hs : Sized n rows) (hl : outs.length = rows.length)
    (hd : ∀ y, y < rows.length → IsSub u (rows.getD y []) (outs.getD y [])) : Inv f u (a + 1) b n outs := fun y hy x => by
  rw [hl] at hy
  obtain ⟨_, _, h3⟩ := hd y hy
  rw [(hs.at hy).1] at h3
  induction x using Nat.strongRecOn with
  | ind x ih =>
    intro hx
    rw [h3 x hx]
    by_cases hxu : x < u
    · rw [if_pos hxu, h y hy x hx, T_sub_small hxu]
    · have e := T_sub (f := f) (a := a) (b := b) (y := y) (x := x) hu (by omega)
      rw [if_neg hxu, h y hy x hx, ih (x - u) (by omega) (by omega), e]
      omega
theorem inv_up {f : Nat → Nat → Int} {u a b n : Nat} {rows outs : List (List Int)} {z : List Int} (hz : ∀ x, z.getD x 0 = 0) (h : Inv f u a b n rows) (hs : Sized n rows) (hl : outs.length = rows.length)
    (hd : ∀ y, y < rows.length → IsUp (rows.getD y []) (if y = 0 then z else outs.getD (y - 1) []) (outs.getD y [])) : Inv f u a (b + 1) n outs := fun y => by
  induction y with
  | zero =>
    intro hy x hx
    rw [hl] at hy
    obtain ⟨_, _, h3⟩ := hd 0 hy
    rw [(hs.at hy).1] at h3
    rw [h3 x hx, h 0 hy x hx, T_up_first, if_pos rfl, hz]
    omega
  | succ y ih =>
    intro hy x hx
    have ih' := ih (by omega) x hx
    rw [hl] at hy
    obtain ⟨_, _, h3⟩ := hd (y + 1) hy
    rw [(hs.at hy).1] at h3
    rw [h3 x hx, h (y + 1) hy x hx, T_up, if_neg (by omega), show y + 1 - 1 = y by omega, ih']
    omega
end Mine

set_option maxRecDepth 100000
namespace Mine
open PySem PySem.W PyProof.Rows PySem.Calls

section
variable {prog : Program} {w : World} {A : Around} {env : Env} {s : Shared} {h₀ : Heap} {m : Str → Option Value} {nw : List (Addr × Obj)} {mg mb : Str → Option Value}

theorem Ev_builtinG {x : Str} {pos : Pos} {v : Value} (R : Root mg mb s.heap) (h1 : mg x = none) (h2 : mb x = some v) (hg : env.globals = mainGlobals) (hb : env.builtins = builtinsNs)
    (hk : env.scope.kind = .function) (hx : env.kindOf x = some .globalImplicit) (hd : (x == ("__debug__" : Str)) = false := by decide) :
    Ev prog w A env s (.Name x pos) (fun v' => v' = v) :=
  fun _ => Name_function_global hk hx (loadGlobal_builtin (env := env) (hg ▸ R.g) h1 (hb ▸ R.b) h2 ⟨rfl, _, rfl⟩) hd

theorem Ev_cell {x : Str} {pos : Pos} {c : Addr} {v : Value} {o : Obj} (hk : env.scope.kind = .function) (hx : env.kindOf x = some .cell) (hc : env.cells.lookup x = some c) (ho : s.heap.get? c = some o) (hd : o.data = .cell (some v))
    (hdb : (x == ("__debug__" : Str)) = false := by decide) : Ev prog w A env s (.Name x pos) (fun v' => v' = v) :=
  fun _ => wpAny_Name (wpAny_loadName_cell hk hx hc ⟨o, ho, hd⟩ ⟨rfl, _, rfl⟩) hdb

theorem Ev_len_list {e : Expr} {p pos : Pos} {l : Addr} {vs : List Value} {n : Nat} (hf : Ev prog w A env s (.Name "len" p) (fun v => v = .builtin "len")) (he : Ev prog w A env s e (IsR l)) (hl : s.heap.get? l = some (lst vs n)) (hfit : (vs.length : Int) < 2 ^ 63)
    (hse : backTo pos (starEach [e] env) = [(false, eval e env)]) : Ev prog w A env s (.Call (.Name "len" p) [e] [] pos) (IsI vs.length) := fun tk => by
  refine wpAny_Call_NameR (hf.useAt fun f tk' hf => ?_)
  subst hf
  rw [hse]
  refine callWith_builtin rfl (evalArgs_plain (spliced_cons (he.useAt fun v tk₂ e' => spliced_nil ?_)))
  subst e'
  refine call_len_list (s := { s with toks := tk₂ }) (items := vs.toArray) ⟨_, hl, rfl, n, rfl⟩ (by simpa using hfit) ⟨⟨tk₂ + 1, ?_⟩, _, rfl⟩
  simp

theorem Ev_if {t b o : Expr} {pos : Pos} {c : Bool} {P : Value → Prop} (ht : ∀ tk, wpAny (model prog w) A (isTrue t env (eval t env)) (fun r s' => r = c ∧ ∃ tk', s' = { s with toks := tk' }) NoE { s with toks := tk })
    (hb : c = true → Ev prog w A env s b P) (ho : c = false → Ev prog w A env s o P) : Ev prog w A env s (.IfExp t b o pos) P := fun tk => by
  refine IfExp_ (wpAny_mono (ht tk) ?_ fun _ _ x => x)
  rintro r s' ⟨rfl, tk', rfl⟩
  cases r with
  | true => exact hb rfl tk'
  | false => exact ho rfl tk'
theorem test_lt {l r : Expr} {pos : Pos} {a b : Int} (hl : Ev prog w A env s l (IsI a)) (hr : Ev prog w A env s r (IsI b)) (hm : behindInMarks .Lt r = false) (whole : Sem Value) (tk : Tok) :
    wpAny (model prog w) A (isTrue (.Compare l [.Lt] [r] pos) env whole) (fun c s' => c = decide (a < b) ∧ ∃ tk', s' = { s with toks := tk' }) NoE { s with toks := tk } :=
  wpAny_isTrue_Compare1 (hl.useAt fun v _ ⟨t, e⟩ => hr.useAt fun v' tk' ⟨u, e'⟩ => by
    subst e; subst e'
    exact P.lt_int (wpAny_truthy_bool ⟨rfl, _, rfl⟩)) hm
theorem test_ne {l r : Expr} {pos : Pos} {a b : Int} (hl : Ev prog w A env s l (IsI a)) (hr : Ev prog w A env s r (IsI b)) (hm : behindInMarks .NotEq r = false) (whole : Sem Value) (tk : Tok) :
    wpAny (model prog w) A (isTrue (.Compare l [.NotEq] [r] pos) env whole) (fun c s' => c = (a != b) ∧ ∃ tk', s' = { s with toks := tk' }) NoE { s with toks := tk } :=
  wpAny_isTrue_Compare1 (hl.useAt fun v _ ⟨t, e⟩ => hr.useAt fun v' tk' ⟨u, e'⟩ => by
    subst e; subst e'
    exact P.ne_int (wpAny_truthy_bool ⟨rfl, _, rfl⟩)) hm
theorem test_eq {l r : Expr} {pos : Pos} {a b : Int} (hl : Ev prog w A env s l (IsI a)) (hr : Ev prog w A env s r (IsI b)) (hm : behindInMarks .Eq r = false) (whole : Sem Value) (tk : Tok) :
    wpAny (model prog w) A (isTrue (.Compare l [.Eq] [r] pos) env whole) (fun c s' => c = (a == b) ∧ ∃ tk', s' = { s with toks := tk' }) NoE { s with toks := tk } :=
  wpAny_isTrue_Compare1 (hl.useAt fun v _ ⟨t, e⟩ => hr.useAt fun v' tk' ⟨u, e'⟩ => by
    subst e; subst e'
    exact P.eq_int (wpAny_truthy_bool ⟨rfl, _, rfl⟩)) hm

theorem C_If {test : Expr} {body orelse : List Stmt} {pos : Pos} {c : Bool} {Q : Flow → Shared → Prop} (ht : wpAny (model prog w) A (isTrue test env (eval test env)) (fun r s' => r = c ∧ ∃ tk', s' = { s with toks := tk' }) NoE s)
    (hb : c = true → ∀ tk, wpC (model prog w) A (execs body env) Q { s with toks := tk }) (ho : c = false → ∀ tk, wpC (model prog w) A (execs orelse env) Q { s with toks := tk }) : wpC (model prog w) A (exec (.If test body orelse pos) env) Q s := by
  rw [exec_If]
  refine wpC_bind (wpC_standAt (wpC_bind (wpC_mono (wpC_of ht) ?_)))
  rintro r s' ⟨rfl, tk', rfl⟩
  cases r with
  | true => exact hb rfl tk'
  | false => exact ho rfl tk'

/-- two or three names, stored at once -/
theorem S_tupleC {elts vals : List Expr} {k k' : Nat} {tpos vpos pos : Pos} {names : List Str} {Q : Flow → Shared → Prop} (hh : A.handled = none)
    (hsp : wpC (model prog w) A (spliced (backTo vpos (starEach vals env))) (fun vs s₁ => ∃ h₀ m nw, vs.length = names.length ∧ vs.length ≤ 100 ∧ Sep h₀ env.locals s₁.heap m nw ∧
      ∀ h tk, Sep h₀ env.locals h m nw → wpAny (model prog w) A (assignInOrder (names.reverse.map fun n => bindName env n) vs.reverse) (fun _ s₂ => Q Flow.next s₂) NoE { s₁ with heap := h, toks := tk }) s)
    (hs : swapsWithSole [.Tuple elts k tpos] (.Tuple vals k' vpos) pos.line env = pure false)
    (hw : swappedStores [.Tuple elts k tpos] (.Tuple vals k' vpos) env = pure (some names)) :
    wpC (model prog w) A (exec (.Assign [.Tuple elts k tpos] (.Tuple vals k' vpos) pos) env) Q s := by
  rw [exec_Assign]
  refine wpC_bind (wpC_standAt ?_)
  rw [hs]
  refine wpC_bind (wpC_pure ?_)
  rw [if_neg (by decide)]
  refine wpC_bind ?_
  show wpC _ _ (do standAt vpos; newTuple (← spliced (backTo vpos (starEach vals env)))) _ _
  refine wpC_bind (wpC_standAt (wpC_bind (wpC_mono hsp ?_)))
  rintro vs s₁ ⟨h₀, m, nw, hlen, hle, S, hQ⟩
  refine wpC_of (wpAny_newObj_type ?_ (by show vs.toArray.size ≤ _; rw [sizeLine_eq]; simp; omega))
  have S₁ := (S.push { cls := .type "tuple", data := .seq vs.toArray }).tail
  rw [hw]
  refine wpC_bind (wpC_pure ?_)
  show wpC _ _ (do rule "assign.swapped-stores"; let items ← unpackItems (.ref s₁.heap.objs.size) names.length none; assignInOrder (names.reverse.map fun n => bindName env n) items.reverse; pure Flow.next) _ _
  refine wpC_bind (wpC_of (wpAny_rule ?_))
  have hsz : names.length = vs.toArray.size := by simp [hlen]
  rw [hsz]
  refine wpC_bind (wpC_of (unpackItems_tuple (items := vs.toArray) hh ⟨_, Heap.get?_push_size _ rfl, rfl, _, rfl⟩ fun h' he => ?_))
  have S₂ : Sep h₀ env.locals h' m nw := by
    refine S₁.grow fun b o e => he b o (Nat.ne_of_lt (Heap.lt_size e)) e
  refine wpC_bind (wpC_of (wpAny_mono (hQ h' s₁.toks S₂) (fun _ s₂ hq => wpC_pure hq) fun _ _ x => x))

theorem assign2 {x y : Str} {v₁ v₂ : Value} {Q : Shared → Prop} (S : Sep h₀ env.locals s.heap m nw) (hx : env.kindOf x = some .local) (hy : env.kindOf y = some .local) (hp : (env.scope.kind == .class || (env.scope.kind == .module && env.locals != env.globals)) = false)
    (h : ∀ h' tk, Sep h₀ env.locals h' (upd (upd m y v₂) x v₁) nw → Q { s with heap := h', toks := tk }) :
    wpAny (model prog w) A (assignInOrder ([x, y].reverse.map fun n => bindName env n) [v₁, v₂].reverse) (fun _ s₂ => Q s₂) NoE s := by
  show wpAny _ _ (do holding [v₁] (bindName env y v₂); (do holding [] (bindName env x v₁); pure ())) _ _ _
  refine wpAny_bind (wpAny_holding (wpAny_bindName (S.store hy hp fun h' tk S' => ?_)))
  refine wpAny_bind (wpAny_holding (wpAny_bindName (Sep.store (s := { s with heap := h', toks := tk }) S' hx hp fun h'' tk' S'' => wpAny_pure (h h'' tk' S''))))
theorem assign3 {x y z : Str} {v₁ v₂ v₃ : Value} {Q : Shared → Prop} (S : Sep h₀ env.locals s.heap m nw) (hx : env.kindOf x = some .local) (hy : env.kindOf y = some .local) (hz : env.kindOf z = some .local) (hp : (env.scope.kind == .class || (env.scope.kind == .module && env.locals != env.globals)) = false)
    (h : ∀ h' tk, Sep h₀ env.locals h' (upd (upd (upd m z v₃) y v₂) x v₁) nw → Q { s with heap := h', toks := tk }) :
    wpAny (model prog w) A (assignInOrder ([x, y, z].reverse.map fun n => bindName env n) [v₁, v₂, v₃].reverse) (fun _ s₂ => Q s₂) NoE s := by
  show wpAny _ _ (do holding [v₂, v₁] (bindName env z v₃); (do holding [v₁] (bindName env y v₂); (do holding [] (bindName env x v₁); pure ()))) _ _ _
  refine wpAny_bind (wpAny_holding (wpAny_bindName (S.store hz hp fun h' tk S' => ?_)))
  refine wpAny_bind (wpAny_holding (wpAny_bindName (Sep.store (s := { s with heap := h', toks := tk }) S' hy hp fun h'' tk' S'' => ?_)))
  refine wpAny_bind (wpAny_holding (wpAny_bindName (Sep.store (s := { s with heap := h'', toks := tk' }) S'' hx hp fun h₃ tk₃ S₃ => wpAny_pure (h h₃ tk₃ S₃))))

/-- a slice of a list -/
theorem eval_slice {value : Expr} {lower upper : Option Expr} {p pos : Pos} {Q : Value → Shared → Prop}
    (h : wpAny (model prog w) A (eval value env) (fun o s₁ => wpAny (model prog w) A (evalPart lower env) (fun vl s₂ => wpAny (model prog w) A (evalPart upper env) (fun vu s₃ =>
      ∃ l items lo hi, o = .ref l ∧ s₃.heap.IsList l items ∧ items.size ≤ sizeLine ∧ IsPart vl lo ∧ IsPart vu hi ∧
        ∀ h' D, (∀ b o, s₃.heap.get? b = some o → h'.get? b = some o) → s₃.heap.get? D = none → h'.get? D = some (lst (slicePick items lo hi none).toList 0) → Q (.ref D) { s₃ with heap := h' }) NoE s₂) NoE s₁) NoE s)
    (hs : ∀ l sl, subscripted (.Slice lower upper none p) false (.ref l) (.ref sl) = operate [.ref sl, .ref l] (getItem (.ref l) (.ref sl))) :
    wpAny (model prog w) A (eval (.Subscript value (.Slice lower upper none p) pos) env) Q NoE s := by
  refine Subscript_ (wpAny_mono h (fun o s₁ h₁ => wpAny_Slice (wpAny_mono h₁ (fun vl s₂ h₂ => wpAny_mono h₂ (fun vu s₃ h₃ => ?_) fun _ _ x => x) fun _ _ x => x)) fun _ _ x => x)
  obtain ⟨l, items, lo, hi, rfl, hl, hsz, pl, pu, hQ⟩ := h₃
  rw [evalPart_none]
  refine wpAny_pure ?_
  refine tail_any (T := "list") (hl.push _).typeIs slot_list_getitem.lookup (wpAny_getItem_list_slice (hl.push _) (Heap.IsSliceOf.new ..) pl pu .none (by simp) ?_ hsz) (hs _ _)
  refine hQ _ _ (fun b o e => Heap.get?_push_of_some _ (Heap.get?_push_of_some _ e)) ?_ (by
    have := Heap.get?_push_size (s₃.heap.push { cls := .type "slice", data := .fields #[vl, vu, .none] }) (o := { cls := .type "list", data := .seq (slicePick items lo hi none) }) rfl
    simpa using this)
  cases e : s₃.heap.get? (s₃.heap.push { cls := .type "slice", data := .fields #[vl, vu, .none] }).objs.size with
  | none => rfl
  | some o => have := Heap.lt_size e; rw [Heap.size_push] at this; exact absurd (Nat.lt_of_succ_lt this) (Nat.lt_irrefl _)

theorem eval_list2 {e e' : Expr} {pos : Pos} {P P' : Value → Prop} {Q : Value → Shared → Prop} (he : Ev prog w A env s e P) (he' : Ev prog w A env s e' P')
    (hse : backTo pos (starEach [e, e'] env) = [(false, eval e env), (false, eval e' env)])
    (hQ : ∀ v v' tk, P v → P' v' → Q (.ref s.heap.objs.size) { s with heap := s.heap.push (lst [v, v'] 0), toks := tk }) : wpAny (model prog w) A (eval (.List [e, e'] pos) env) Q NoE s := by
  refine List_ ?_
  rw [hse]
  refine spliced_cons (he.use fun v tk hv => spliced_cons (he'.useAt fun v' tk' hv' => spliced_nil ?_))
  exact wpAny_newObj_type (hQ v v' tk' hv hv') (by show 2 ≤ _; rw [sizeLine_eq]; omega)
theorem eval_list0 {pos : Pos} {Q : Value → Shared → Prop} (hse : backTo pos (starEach [] env) = [])
    (hQ : ∀ tk, Q (.ref s.heap.objs.size) { s with heap := s.heap.push (lst [] 0), toks := tk }) : wpAny (model prog w) A (eval (.List [] pos) env) Q NoE s := by
  refine List_ ?_
  rw [hse]
  refine spliced_nil ?_
  exact wpAny_newObj_type (hQ s.toks) (by show 0 ≤ _; omega)
theorem eval_len {e : Expr} {p pos : Pos} {Q : Value → Shared → Prop} (hf : Ev prog w A env s (.Name "len" p) (fun v => v = .builtin "len"))
    (hse : backTo pos (starEach [e] env) = [(false, eval e env)])
    (h : ∀ tk, wpAny (model prog w) A (eval e env) (fun v s₁ => ∃ l items, v = .ref l ∧ s₁.heap.IsList l items ∧ (items.size : Int) < 2 ^ 63 ∧ ∀ t tk, Q (.int items.size t) { s₁ with toks := tk }) NoE { s with toks := tk }) :
    wpAny (model prog w) A (eval (.Call (.Name "len" p) [e] [] pos) env) Q NoE s := by
  refine wpAny_Call_NameR (hf.use fun f tk hf => ?_)
  subst hf
  rw [hse]
  refine callWith_builtin rfl (evalArgs_plain (spliced_cons (wpAny_mono (h tk) (fun v s₁ h₁ => spliced_nil ?_) fun _ _ x => x)))
  obtain ⟨l, items, rfl, hl, hfit, hQ⟩ := h₁
  exact call_len_list hl hfit (hQ _ _)
theorem Sep.new_of {h h' : Heap} {L : Addr} {a : Addr} {o : Obj} (S : Sep h₀ L h m nw) (ha : h.objs.size ≤ a) (F' : Fr h₀ L h' m) (N' : News h₀ L h' ((a, o) :: nw)) : Sep h₀ L h' m ((a, o) :: nw) := by
  refine ⟨F', N', ?_⟩
  rw [List.map_cons, List.nodup_cons]
  refine ⟨fun hm => ?_, S.D⟩
  obtain ⟨p, hp, e⟩ := List.mem_map.mp hm
  have := Heap.lt_size (S.N p hp).1
  rw [e] at this
  exact absurd (Nat.lt_of_lt_of_le this ha) (Nat.lt_irrefl _)
end
end Mine

set_option maxRecDepth 100000
namespace Mine
open PySem PySem.W PyProof.Rows PySem.Calls

abbrev lawSc : Scope := scopeOf (stmtAt 5)
abbrev lawBody : List Stmt := bodyOf (stmtAt 5)
abbrev lawEnv (L fa c : Addr) (cd : Value) : Env := envX "law" lawSc L fa cd [("cells", c)]

section
variable {prog : Program} {w : World} {A : Around} {s : Shared} {h₀ : Heap} {m : Str → Option Value} {mg mb : Str → Option Value} {L fa c : Addr} {cd : Value}

theorem st0 {Q : Flow → Shared → Prop} {oc : Obj} {l : Addr} {svs : List Value} {sns : List Int} (R : Root mg mb h₀) (S : Sep h₀ L s.heap m [(c, oc)]) (hoc : oc.data = .cell none) (hm : m "script" = some (.ref l)) (hl : h₀.IsList l svs.toArray) (hi : IntsAre svs sns) (hlen : sns.length ≤ 63)
    (k : ∀ h tk cl cvs n cs oc', Sep h₀ L h m [(cl, lst cvs n), (c, oc')] → oc'.data = .cell (some (.ref cl)) → IntsAre cvs cs → 2 ≤ cs.length → cs.length ≤ 100 → wpC (model prog w) A (execs (lawBody.drop 1) (lawEnv L fa c cd)) Q { s with heap := h, toks := tk }) :
    wpC (model prog w) A (execs lawBody (lawEnv L fa c cd)) Q s := by
  have hvl : svs.length = sns.length := hi.length
  have hls : ∀ {h : Heap} {nw : List (Addr × Obj)}, Sep h₀ L h m nw → h.IsList l svs.toArray := fun S' => let ⟨o, e, r⟩ := hl; ⟨o, S'.base e, r⟩
  refine C_cons (wpC_of (wpAny_Assign_Name (wpAny_BinOp ?_) rfl))
  -- script[:50]
  refine eval_slice ((Ev_local S.F.ns hm).use fun v tk e => wpAny_evalPart_none (wpAny_evalPart_some (Ev_const.useAt fun v₂ tk₂ ⟨t, e₂⟩ => ?_))) (fun _ _ => by with_unfolding_all rfl)
  subst e; subst e₂
  refine ⟨l, _, _, _, rfl, hls S, by rw [sizeLine_eq]; simp; omega, .none, .int _ _, fun h₁ D₁ hk₁ hn₁ hD₁ => ?_⟩
  have S₁ := S.add hk₁ hn₁ hD₁
  have I₁ := slice_ints_uptoW hi (y := 50) (by decide)
  -- [0, 0][len(script[:2]):]
  refine eval_slice (eval_list2 Ev_const Ev_const rfl fun v₃ v₄ tk₃ ⟨t₃, e₃⟩ ⟨t₄, e₄⟩ => ?_) (fun _ _ => by with_unfolding_all rfl)
  subst e₃; subst e₄
  have S₂ := S₁.push (lst [.int 0 t₃, .int 0 t₄] 0)
  refine wpAny_evalPart_some (eval_len (Ev_builtin (R.keeps S₂.F.keep) R.len.1 R.len.2) rfl fun tk₅ => ?_)
  refine eval_slice ((Ev_local (s := { s with heap := _ }) S₂.F.ns hm).useAt fun v tk₆ e => wpAny_evalPart_none (wpAny_evalPart_some (Ev_const.useAt fun v₂ tk₇ ⟨t₇, e₇⟩ => ?_))) (fun _ _ => by with_unfolding_all rfl)
  subst e; subst e₇
  refine ⟨l, _, _, _, rfl, hls S₂, by rw [sizeLine_eq]; simp; omega, .none, .int _ _, fun h₃ D₃ hk₃ hn₃ hD₃ => ?_⟩
  have S₃ := S₂.add hk₃ hn₃ hD₃
  have I₃ := slice_ints_uptoW hi (y := 2) (by decide)
  have hl₃ := I₃.length
  rw [List.length_take] at hl₃
  refine ⟨D₃, (slicePick svs.toArray none (some 2) none).toList.toArray, rfl, ⟨_, hD₃, rfl, 0, rfl⟩, by simp at hl₃ ⊢; omega, fun t₈ tk₈ => ?_⟩
  refine wpAny_evalPart_none ?_
  refine ⟨_, [Value.int 0 t₃, .int 0 t₄].toArray, _, _, rfl, ⟨_, hk₃ _ _ (S₂.get (.head _)), rfl, 0, rfl⟩, by show 2 ≤ _; rw [sizeLine_eq]; omega, .int _ _, .none, fun h₄ D₄ hk₄ hn₄ hD₄ => ?_⟩
  have S₄ := S₃.add hk₄ hn₄ hD₄
  have I₄ := slice_ints_fromW (IntsAre.cons 0 t₃ (IntsAre.cons 0 t₄ .nil)) (x := (((slicePick svs.toArray none (some 2) none).toList.toArray.size : Nat) : Int)) (by omega)
  -- the two joined
  refine add_lists_ints S₄.F S₄.N ⟨_, S₄.get (.tail _ (.tail _ (.tail _ (.head _)))), rfl, 0, rfl⟩ ⟨_, S₄.get (.head _), rfl, 0, rfl⟩ I₁ I₄ (fun h₅ F₅ N₅ I₅ => ?_) (by rw [sizeLine_eq]; simp; omega)
  have S₅ := (S₄.new_of (Nat.le_refl _) F₅ N₅).sub (nw' := [(h₄.objs.size, lst ((slicePick svs.toArray none (some 50) none).toList ++ (slicePick [Value.int 0 t₃, .int 0 t₄].toArray (some (((slicePick svs.toArray none (some 2) none).toList.toArray.size : Nat) : Int)) none none).toList) 0), (c, oc)]) (by
    refine .cons_cons _ (.cons _ (.cons _ (.cons _ (.cons _ (.refl _)))))
  )
  generalize h₄.objs.size = cl at S₅
  generalize (slicePick svs.toArray none (some 50) none).toList ++ (slicePick [Value.int 0 t₃, .int 0 t₄].toArray (some (((slicePick svs.toArray none (some 2) none).toList.toArray.size : Nat) : Int)) none none).toList = cvs at S₅ I₅
  refine wpAny_storeName_cell (s := { s with heap := h₅, toks := _ }) rfl rfl rfl ⟨oc, S₅.get (.tail _ (.head _)), hoc⟩ fun h₆ hc₆ hs₆ => ⟨rfl, ?_⟩
  obtain ⟨oc', ho', hd'⟩ := hc₆
  have S₆ := ((S₅.perm (nw' := [(c, oc), (cl, lst cvs 0)]) (List.Perm.swap ..)).turn hs₆.extBut ho').perm (nw' := [(cl, lst cvs 0), (c, oc')]) (List.Perm.swap ..)
  refine k h₆ _ cl cvs 0 _ oc' S₆ hd' I₅ ?_ ?_ <;>
  · simp only [List.length_append, List.length_take, List.length_drop, List.length_cons, List.length_nil, Int.toNat_natCast, List.size_toArray]
    rw [hl₃]
    have e50 : (50 : Int).toNat = 50 := rfl
    have e2 : (2 : Int).toNat = 2 := rfl
    omega

structure Dims (m : Str → Option Value) (u wd hi mn : Nat) : Prop where
  unit : ∃ t, m "unit" = some (.int u t)
  wide : ∃ t, m "wide" = some (.int wd t)
  high : ∃ t, m "high" = some (.int hi t)
  many : ∃ t, m "many" = some (.int mn t)
  u1 : 1 ≤ u
  u3 : u ≤ 3
  w1 : 1 ≤ wd
  w4 : wd ≤ 4
  h1 : 1 ≤ hi
  h4 : hi ≤ 4
  m1 : 1 ≤ mn
  m6 : mn ≤ 6
theorem Dims.of {m m' : Str → Option Value} {u wd hi mn : Nat} (D : Dims m u wd hi mn) (h : ∀ y ∈ (["unit", "wide", "high", "many"] : List Str), m' y = m y) : Dims m' u wd hi mn :=
  ⟨by rw [h _ (by decide)]; exact D.unit, by rw [h _ (by decide)]; exact D.wide, by rw [h _ (by decide)]; exact D.high, by rw [h _ (by decide)]; exact D.many, D.u1, D.u3, D.w1, D.w4, D.h1, D.h4, D.m1, D.m6⟩

theorem Ev_cells0 {cl : Addr} {cvs : List Value} {n : Nat} {cs : List Int} {oc : Obj} {p p' pos : Pos} {j : Nat} {jj : Int} (hj : jj = j) (hcl : s.heap.get? cl = some (lst cvs n)) (hc : s.heap.get? c = some oc) (hd : oc.data = .cell (some (.ref cl))) (hI : IntsAre cvs cs) (hlen : j < cs.length) (hcs : cs.length ≤ 100) :
    Ev prog w A (lawEnv L fa c cd) s (.Subscript (.Name "cells" p) (.Constant (.int jj) 0 p') pos) (IsI (cs.getD j 0)) := by
  subst hj
  have hv : j < cvs.length := by rw [hI.length]; exact hlen
  obtain ⟨t, e⟩ := IntsAre.int_at hI j _ (List.getElem?_eq_getElem hv)
  exact Ev_item (Ev_cell rfl rfl rfl hc hd) Ev_const hcl (by omega) (by omega) (by rw [Int.toNat_natCast]; exact List.getElem?_eq_getElem hv) ⟨t, e⟩ (fun u => by with_unfolding_all rfl)

theorem st1 {Q : Flow → Shared → Prop} (hh : A.handled = none) {oc : Obj} {cl : Addr} {cvs : List Value} {n : Nat} {cs : List Int} (S : Sep h₀ L s.heap m [(cl, lst cvs n), (c, oc)]) (hd : oc.data = .cell (some (.ref cl))) (hI : IntsAre cvs cs) (h2 : 2 ≤ cs.length) (hcs : cs.length ≤ 100)
    (k : ∀ h tk m' f0 u wd hi mn, Sep h₀ L h m' [(f0, lst [] 0), (cl, lst cvs n), (c, oc)] → Dims m' u wd hi mn → m' "first" = some (.ref f0) → wpC (model prog w) A (execs (lawBody.drop 4) (lawEnv L fa c cd)) Q { s with heap := h, toks := tk }) :
    wpC (model prog w) A (execs (lawBody.drop 1) (lawEnv L fa c cd)) Q s := by
  have hcell : ∀ {h : Heap} {m' : Str → Option Value} {tk : Tok} {p p' pos : Pos}, Sep h₀ L h m' [(cl, lst cvs n), (c, oc)] → Ev prog w A (lawEnv L fa c cd) { s with heap := h, toks := tk } (.Subscript (.Name "cells" p) (.Constant (.int 0) 0 p') pos) (IsI (cs.getD 0 0)) :=
    fun S' => Ev_cells0 (j := 0) rfl (S'.get (.head _)) (S'.get (.tail _ (.head _))) hd hI (by omega) hcs
  have hc0 : ∀ {p p' pos : Pos}, Ev prog w A (lawEnv L fa c cd) s (.Subscript (.Name "cells" p) (.Constant (.int 0) 0 p') pos) (IsI (cs.getD 0 0)) := hcell S
  generalize cs.getD 0 0 = x0 at hcell hc0
  refine C_cons (S_tupleC (names := ["unit", "wide", "high"]) hh (wpC_of ?_) rfl rfl)
  refine spliced_cons ((Ev_add Ev_const (Ev_emod hc0 Ev_const (by decide))).use fun v₁ tk₁ ⟨t₁, e₁⟩ => spliced_cons ((Ev_add Ev_const (Ev_emod (Ev_div hc0 Ev_const (by decide) (by decide)) Ev_const (by decide))).useAt fun v₂ tk₂ ⟨t₂, e₂⟩ =>
    spliced_cons ((Ev_add Ev_const (Ev_emod (Ev_div hc0 Ev_const (by decide) (by decide)) Ev_const (by decide))).useAt fun v₃ tk₃ ⟨t₃, e₃⟩ => spliced_nil ?_)))
  subst e₁; subst e₂; subst e₃
  refine ⟨h₀, m, _, rfl, by show 3 ≤ 100; decide, S, fun h₁ tk₄ S₁ => assign3 (s := { s with heap := h₁, toks := tk₄ }) S₁ rfl rfl rfl rfl fun h₂ tk₅ S₂ => ⟨rfl, ?_⟩⟩
  refine C_cons (S_assign S₂ (Ev_add Ev_const (Ev_emod (Ev_div (hcell S₂) Ev_const (by decide) (by decide)) Ev_const (by decide))) rfl rfl rfl fun v h₃ tk₆ ⟨t₄, e₄⟩ S₃ => ⟨rfl, ?_⟩)
  subst e₄
  refine C_cons (S_assignC rfl rfl rfl (wpC_of (eval_list0 rfl fun tk => ⟨h₀, _, _, S₃.push _, fun h₄ tk₇ S₄ => ⟨rfl, ?_⟩⟩)))
  refine k h₄ tk₇ _ _ (1 + x0 % 3).toNat (1 + x0 / 3 % 4).toNat (1 + x0 / 12 % 4).toNat (1 + x0 / 48 % 6).toNat S₄ ⟨⟨t₁, ?_⟩, ⟨t₂, ?_⟩, ⟨t₃, ?_⟩, ⟨t₄, ?_⟩, by omega, by omega, by omega, by omega, by omega, by omega, by omega, by omega⟩ (upd_same _ _ _)
  · rw [upd_ne (by decide), upd_ne (by decide), upd_same, Int.toNat_of_nonneg (by omega)]
  · rw [upd_ne (by decide), upd_ne (by decide), upd_ne (by decide), upd_same, Int.toNat_of_nonneg (by omega)]
  · rw [upd_ne (by decide), upd_ne (by decide), upd_ne (by decide), upd_ne (by decide), upd_same, Int.toNat_of_nonneg (by omega)]
  · rw [upd_ne (by decide), upd_same, Int.toNat_of_nonneg (by omega)]
end
end Mine

set_option maxRecDepth 100000
namespace Mine
open PySem PySem.W PyProof.Rows PySem.Calls

/-- an octet of the table that the law builds -/
def octet (cs : List Int) (k : Int) : Int := (if k < cs.length then cs.getD k.toNat 0 else 71 * k + 3) % 256
def rowF (cs : List Int) (n y : Nat) : List Int := (List.range n).map fun i : Nat => octet cs (2 + (y : Int) * n + (i : Int))
theorem rowF_len (cs : List Int) (n y : Nat) : (rowF cs n y).length = n := by simp [rowF]
theorem rowF_oct (cs : List Int) (n y : Nat) : Octets (rowF cs n y) := fun v hv => by
  obtain ⟨i, _, rfl⟩ := List.mem_map.mp hv
  unfold octet
  omega

theorem paired_ints {val : Int → Int} : ∀ {vs ys : List Value} {lo : Int}, Paired (fun v y => ∀ k t, v = Value.int k t → ∃ t', y = Value.int (val k) t') vs ys → (∀ j v, vs[j]? = some v → ∃ t, v = Value.int (lo + (j : Nat)) t) →
    IntsAre ys ((List.range vs.length).map fun j => val (lo + (j : Nat)))
  | _, _, _, .nil, _ => .nil
  | v :: vs, y :: ys, lo, .cons hF hP, h => by
    obtain ⟨t, rfl⟩ := h 0 v rfl
    obtain ⟨t', rfl⟩ := hF _ _ rfl
    rw [List.length_cons, List.range_succ_eq_map, List.map_cons, List.map_map]
    refine .cons _ _ ?_
    have ih := paired_ints (lo := lo + 1) hP fun j v hv => by
      obtain ⟨t, e⟩ := h (j + 1) v hv
      exact ⟨t, by rw [e]; congr 1; push_cast; omega⟩
    have e : ((fun j : Nat => val (lo + (j : Int))) ∘ Nat.succ) = fun j : Nat => val (lo + 1 + (j : Int)) := by
      funext j
      show val (lo + ((j + 1 : Nat) : Int)) = _
      congr 1; push_cast; omega
    rw [e]; exact ih

section
variable {prog : Program} {w : World} {A : Around} {s : Shared} {h₀ : Heap} {m : Str → Option Value} {mg mb : Str → Option Value} {L fa c : Addr} {cd : Value}

/-- the element of the comprehension, in its own block -/
theorem comp_elt {scope : Scope} {C cl : Addr} {cvs : List Value} {n : Nat} {cs : List Int} {oc : Obj} {m₃ : Str → Option Value} {k : Int} {t : Tok} {p₁ p₂ p₃ p₄ p₅ p₆ p₇ p₈ p₉ p₁₀ p₁₁ p₁₂ p₁₃ p₁₄ p₁₅ p₁₆ : Pos}
    (R : Root mg mb s.heap) (hn : s.heap.Ns C m₃) (hk : m₃ "k" = some (.int k t)) (hcl : s.heap.get? cl = some (lst cvs n)) (hc : s.heap.get? c = some oc) (hd : oc.data = .cell (some (.ref cl))) (hI : IntsAre cvs cs) (hcs : cs.length ≤ 100) (k0 : 0 ≤ k) (k1 : k < 1000)
    (h1 : (compEnvC scope [("cells", c)] C (lawEnv L fa c cd)).kindOf "k" = some .local) (h2 : (compEnvC scope [("cells", c)] C (lawEnv L fa c cd)).kindOf "cells" = some .cell) (h3 : (compEnvC scope [("cells", c)] C (lawEnv L fa c cd)).kindOf "len" = some .globalImplicit) (h4 : scope.kind = .function) :
    Ev prog w A (compEnvC scope [("cells", c)] C (lawEnv L fa c cd)) s
      (.BinOp (.IfExp (.Compare (.Name "k" p₁) [.Lt] [.Call (.Name "len" p₂) [.Name "cells" p₃] [] p₄] p₅) (.Subscript (.Name "cells" p₆) (.Name "k" p₇) p₈) (.BinOp (.BinOp (.Constant (.int 71) 0 p₉) .Mult (.Name "k" p₁₀) p₁₁) .Add (.Constant (.int 3) 0 p₁₂) p₁₃) p₁₄) .Mod (.Constant (.int 256) 0 p₁₅) p₁₆)
      (IsI (octet cs k)) := by
  have hK : ∀ {p : Pos}, Ev prog w A (compEnvC scope [("cells", c)] C (lawEnv L fa c cd)) s (.Name "k" p) (IsI k) := Ev_localI hn ⟨t, hk⟩ h4 h1
  have hC : ∀ {p : Pos}, Ev prog w A (compEnvC scope [("cells", c)] C (lawEnv L fa c cd)) s (.Name "cells" p) (IsR cl) := Ev_cell h4 h2 rfl hc hd
  have hv : cvs.length = cs.length := hI.length
  refine Ev_emod ?_ Ev_const (by decide)
  refine Ev_if (c := decide (k < (cvs.length : Int))) (test_lt hK (Ev_len_list (Ev_builtinG R R.len.1 R.len.2 rfl rfl h4 h3) hC hcl (by omega) rfl) rfl _) (fun e => ?_) (fun e => ?_)
  · have e := of_decide_eq_true e
    rw [if_pos (by omega)]
    have hlt : k.toNat < cvs.length := by omega
    obtain ⟨t', e'⟩ := IntsAre.int_at hI k.toNat _ (List.getElem?_eq_getElem hlt)
    exact Ev_item hC hK hcl k0 (by omega) (List.getElem?_eq_getElem hlt) ⟨t', e'⟩
  · have e := of_decide_eq_false e
    rw [if_neg (by omega)]
    exact Ev_add (Ev_mul Ev_const hK (mulOk_left (by decide) (by decide))) Ev_const

def LineIn (nw : List (Addr × Obj)) (x : Addr × List Int) : Prop := ∃ o, (x.1, o) ∈ nw ∧ (o = ba x.2 ∨ ∃ vs n, o = lst vs n ∧ IntsAre vs x.2)
theorem LineIn.mono {nw nw' : List (Addr × Obj)} {x : Addr × List Int} (h : LineIn nw x) (hs : ∀ p ∈ nw, p ∈ nw') : LineIn nw' x := let ⟨o, hm, r⟩ := h; ⟨o, hs _ hm, r⟩
def TabAt (nw : List (Addr × Obj)) (l : Addr) (rows : List (Addr × List Int)) : Prop := (∃ n, (l, lst (rows.map fun x => Value.ref x.1) n) ∈ nw) ∧ ∀ x ∈ rows, LineIn nw x
theorem TabAt.mono {nw nw' : List (Addr × Obj)} {l : Addr} {rows : List (Addr × List Int)} (h : TabAt nw l rows) (hs : ∀ p ∈ nw, p ∈ nw') : TabAt nw' l rows :=
  ⟨let ⟨n, hm⟩ := h.1; ⟨n, hs _ hm⟩, fun x hx => (h.2 x hx).mono hs⟩

theorem Sep.bring {h : Heap} {l₁ l₂ : List (Addr × Obj)} {a : Addr × Obj} (S : Sep h₀ L h m (l₁ ++ a :: l₂)) : Sep h₀ L h m (a :: (l₁ ++ l₂)) := S.perm List.perm_middle.symm
theorem Sep.put {h : Heap} {l₁ l₂ : List (Addr × Obj)} {a : Addr × Obj} (S : Sep h₀ L h m (a :: (l₁ ++ l₂))) : Sep h₀ L h m (l₁ ++ a :: l₂) := S.perm List.perm_middle
theorem Sep.fresh {h h' : Heap} {nw nw' : List (Addr × Obj)} {m' : Str → Option Value} {D : Addr} {o : Obj} (S : Sep h₀ L h m nw) (S' : Sep h₀ L h' m' nw') (hs : ∀ p ∈ nw', p.1 ∈ nw.map (·.1)) (hD : h.get? D = none) (ho : h'.get? D = some o) : Sep h₀ L h' m' ((D, o) :: nw') := by
  refine ⟨S'.F, fun p hp => ?_, ?_⟩
  · rcases List.mem_cons.mp hp with rfl | hp
    · refine ⟨ho, fun e => ?_, S.old_none hD⟩
      obtain ⟨o', _, _, e', _⟩ := S.F.ns
      rw [show D = L from e] at hD; rw [hD] at e'; cases e'
    · exact S'.N p hp
  · rw [List.map_cons, List.nodup_cons]
    refine ⟨fun hm => ?_, S'.D⟩
    obtain ⟨p, hp, e⟩ := List.mem_map.mp hm
    obtain ⟨q, hq, e'⟩ := List.mem_map.mp (hs p hp)
    exact S.ne_of_none hD hq (e'.trans e)

theorem rangeIter_ne {h : Heap} {nw : List (Addr × Obj)} {I : Addr} {o : Obj} (S : Sep h₀ L h m ((I, o) :: nw)) {b : Addr} {ob : Obj} (hm : (b, ob) ∈ nw) : b ≠ I := by
  have hD : I ∉ nw.map (·.1) := by have := S.D; rw [List.map_cons, List.nodup_cons] at this; exact this.1
  exact fun e => hD (e ▸ List.mem_map_of_mem hm)

set_option maxHeartbeats 1000000 in
theorem st4 {Q : Flow → Shared → Prop} (hh : A.handled = none) (R : Root mg mb h₀) {oc : Obj} {cl f0 : Addr} {cvs : List Value} {n : Nat} {cs : List Int} {u wd hi mn : Nat}
    (S : Sep h₀ L s.heap m [(f0, lst [] 0), (cl, lst cvs n), (c, oc)]) (hd : oc.data = .cell (some (.ref cl))) (hI : IntsAre cvs cs) (hcs : cs.length ≤ 100) (D : Dims m u wd hi mn) (hf : m "first" = some (.ref f0))
    (k : ∀ h tk m' nw rows, Sep h₀ L h m' nw → (cl, lst cvs n) ∈ nw → (c, oc) ∈ nw → TabAt nw f0 rows → Sized (wd * u) (rows.map (·.2)) → rows.length = hi → Dims m' u wd hi mn → m' "first" = some (.ref f0) →
      wpC (model prog w) A (execs (lawBody.drop 5) (lawEnv L fa c cd)) Q { s with heap := h, toks := tk }) :
    wpC (model prog w) A (execs (lawBody.drop 4) (lawEnv L fa c cd)) Q s := by
  have hi4 := D.h4
  have hw4 := D.w4
  have hu3 := D.u3
  have hwu : wd * u ≤ 12 := Nat.mul_le_mul hw4 hu3
  refine C_cons (C_for_range (lo := 0) (hi := (hi : Int)) (n := hi) (fun t m' nw => ∃ rows n' rest, nw = (f0, lst (rows.map fun x => Value.ref x.1) n') :: rest ∧ (cl, lst cvs n) ∈ rest ∧ (c, oc) ∈ rest ∧ (∀ x ∈ rows, LineIn rest x) ∧ rows.map (·.2) = (List.range t).map (rowF cs (wd * u)) ∧
      ∀ y : Str, y ≠ "y" → y ≠ "ats" → m' y = m y) hh S ⟨[], 0, _, rfl, .head _, .tail _ (.head _), fun _ h => (nomatch h), rfl, fun _ _ _ => rfl⟩ ?_ (by omega) (by omega) (by omega) (by omega) (by omega) rfl rfl ?_ ?_)
  · intro Q' hQ'
    exact eval_range1 (Ev_builtin (R.keeps S.F.keep) R.range.1 R.range.2) (Ev_localI S.F.ns D.high) rfl rfl hQ'
  · rintro i t' m₁ nw₁ p h tk hlt ⟨rows, n', rest, rfl, hmcl, hmc, hrows, hval, hm⟩ S₁
    have hrl : rows.length = i := by have := congrArg List.length hval; simpa using this
    have D₁ : Dims (upd m₁ "y" (.int (0 + (i : Nat)) t')) u wd hi mn := D.of fun y hy => by
      rw [upd_ne (by rintro rfl; revert hy; decide)]
      exact hm y (by rintro rfl; revert hy; decide) (by rintro rfl; revert hy; decide)
    have hy : ∃ t, (upd m₁ "y" (.int (0 + (i : Nat)) t')) "y" = some (.int (0 + (i : Nat)) t) := ⟨t', upd_same _ _ _⟩
    have p1 : IntMulOk ((0 : Int) + (i : Nat)) wd := mulOk_left (by omega) (by omega)
    have p2 : IntMulOk ((0 : Int) + (i : Nat) + 1) wd := mulOk_left (by omega) (by omega)
    have hb1 : ((0 : Int) + (i : Nat)) * wd * u = (i : Int) * ((wd * u : Nat) : Int) := by push_cast; rw [Int.zero_add, Int.mul_assoc]
    have hb2 : ((0 : Int) + (i : Nat) + 1) * wd * u = (i : Int) * ((wd * u : Nat) : Int) + ((wd * u : Nat) : Int) := by
      push_cast; rw [Int.zero_add, Int.mul_assoc, Int.add_mul, Int.one_mul]
    have hb3 : (i : Int) * ((wd * u : Nat) : Int) ≤ 3 * 12 := Int.mul_le_mul (by omega) (by omega) (by omega) (by decide)
    have hb4 : 0 ≤ (i : Int) * ((wd * u : Nat) : Int) := Int.mul_nonneg (by omega) (by omega)
    have q1 : IntMulOk (((0 : Int) + (i : Nat)) * wd) u := IntMulOk.of_right (intBits_le_64 (by omega) (by omega))
    have q2 : IntMulOk (((0 : Int) + (i : Nat) + 1) * wd) u := IntMulOk.of_right (intBits_le_64 (by omega) (by omega))
    -- ats = range(..)
    refine C_cons (S_assignC rfl rfl rfl (wpC_of (eval_range2 (Ev_builtin (R.keeps S₁.F.keep) R.range.1 R.range.2)
      (Ev_add Ev_const (Ev_mul (Ev_mul (Ev_localI (i := 0 + (i : Nat)) S₁.F.ns hy) (Ev_localI (i := (wd : Int)) S₁.F.ns D₁.wide) p1) (Ev_localI (i := (u : Int)) S₁.F.ns D₁.unit) q1))
      (Ev_add Ev_const (Ev_mul (Ev_mul (Ev_add (Ev_localI (i := 0 + (i : Nat)) S₁.F.ns hy) Ev_const) (Ev_localI (i := (wd : Int)) S₁.F.ns D₁.wide) p2) (Ev_localI (i := (u : Int)) S₁.F.ns D₁.unit) q2)) rfl rfl
      fun tk₂ ta tb tc => ⟨h₀, _, _, S₁.push _, fun h₂ tk₃ S₂ => ⟨rfl, ?_⟩⟩)))
    rw [hb1, hb2] at S₂
    generalize h.objs.size = r at S₂ ⊢
    generalize hlo : 2 + (i : Int) * ((wd * u : Nat) : Int) = lo at S₂
    -- first.append([..])
    have hm2 : ∀ y : Str, y ≠ "y" → y ≠ "ats" → upd (upd m₁ "y" (.int (0 + (i : Nat)) t')) "ats" (.ref r) y = m y := fun y h1 h2 => by rw [upd_ne h2, upd_ne h1, hm y h1 h2]
    refine C_one (S_append (Ev_local S₂.F.ns (by rw [hm2 _ (by decide) (by decide)]; exact hf)) ⟨_, _, S₂.get (.tail _ (.tail _ (.head _)))⟩ (fun tk₄ => ?_) rfl rfl rfl rfl rfl)
    refine wpAny_ListComp_free (fun _ => true) (fun v y => ∀ k t, v = Value.int k t → ∃ t', y = Value.int (octet cs k) t') (cl := [("cells", c)]) rfl (by decide) rfl (by decide) rfl
      ((Ev_local S₂.F.ns (upd_same _ _ _)).useAt fun v tk₅ e => ?_)
    subst e
    have hsz : Builtin.Range.rangeSize lo (2 + ((i : Int) * ((wd * u : Nat) : Int) + ((wd * u : Nat) : Int))) 1 = ((wd * u : Nat) : Int) := by rw [rangeSize_one]; split <;> omega
    refine wpAny_pyIter_range (S₂.get (.head _)) (small_one (by omega) (by omega) (by omega) (by omega)) ?_
    rw [hsz]
    have S₃ := S₂.push { cls := .type "range_iterator", data := .fields #[rawInt lo, rawInt ((wd * u : Nat) : Int), rawInt 1] }
    have hIn : h₀.get? h₂.objs.size = none := (S₃.N _ (.head _)).2.2
    refine ⟨h₂.objs.size, [h₂.objs.size], [h₂.objs.size], wd * u, _, _, rfl, (Walks.range hh _ lo 1 (wd * u)).bound, by rw [sizeLine_eq]; omega, ?_, ?_, ⟨?_, ?_⟩, ?_⟩
    · show IsRangeIter _ _ _ _ _
      have e := S₃.get (.head _)
      simpa using e
    · intro b hb
      rw [List.mem_singleton.mp hb]
      show _ < (h₂.push _).objs.size
      rw [Heap.size_push]; exact Nat.lt_succ_self _
    · intro C j v s₃ m₃ E' _ _ _ _ _ _
      exact wpAny_pure ⟨rfl, s₃.heap, s₃.toks, rfl, fun _ _ e => e⟩
    · rintro C j v s₃ m₃ E' _ ⟨hj, t, rfl⟩ _ hn hk hkeep _
      have mcl : (cl, lst cvs n) ∈ (r, ({ cls := .type "range", data := .fields #[.int lo ta, .int (2 + ((i : Int) * ((wd * u : Nat) : Int) + ((wd * u : Nat) : Int))) tb, .int 1 tc] } : Obj)) :: p :: (f0, lst (rows.map fun x => Value.ref x.1) n') :: rest := .tail _ (.tail _ (.tail _ hmcl))
      have mc : (c, oc) ∈ (r, ({ cls := .type "range", data := .fields #[.int lo ta, .int (2 + ((i : Int) * ((wd * u : Nat) : Int) + ((wd * u : Nat) : Int))) tb, .int 1 tc] } : Obj)) :: p :: (f0, lst (rows.map fun x => Value.ref x.1) n') :: rest := .tail _ (.tail _ (.tail _ hmc))
      refine wpAny_mono (E := NoE) (Q := fun v s' => IsI (octet cs (lo + (j : Nat) * 1)) v ∧ ∃ tk', s' = { s₃ with toks := tk' }) (comp_elt (cl := cl) (m₃ := m₃) (R.keeps fun b o e => hkeep b o (fun hb => by rw [List.mem_singleton.mp hb, hIn] at e; cases e) (S₃.base e)) hn hk
        (hkeep _ _ (fun hb => rangeIter_ne S₃ mcl (List.mem_singleton.mp hb)) (S₃.get (.tail _ mcl))) (hkeep _ _ (fun hb => rangeIter_ne S₃ mc (List.mem_singleton.mp hb)) (S₃.get (.tail _ mc))) hd hI hcs (by omega) (by omega) rfl rfl rfl rfl s₃.toks) ?_ fun _ _ x => x.elim
      rintro y s₄ ⟨⟨t₉, hy⟩, tk₉, e₉⟩
      refine ⟨fun k t e => ?_, s₃.heap, tk₉, e₉, fun _ _ e => e⟩
      cases e
      exact ⟨t₉, hy⟩
    · intro E₄ h₄ tk₆ ys vs hDn _ hpl hvl hvs hP hkeep
      obtain ⟨nD, hE⟩ := hpl
      have S₄ := S₃.forget (h' := h₄) fun b o hb e => hkeep b o (by simpa using hb) e
      have S₅ := Sep.fresh S₃ S₄ (fun p hp => List.mem_map_of_mem (.tail _ hp)) hDn (o := lst ys.toList nD) hE
      have S₆ := Sep.bring (l₁ := [_, _, _]) S₅
      refine ⟨h₀, _, _, _, n', S₆, by rw [List.length_map]; omega, fun h₇ tk₇ n₇ S₇ => ⟨rfl, h₇, tk₇, _, _, rfl, ?_, rows ++ [(E₄, rowF cs (wd * u) i)], n₇, (E₄, lst ys.toList nD) :: rest, rfl, .tail _ hmcl, .tail _ hmc, ?_, ?_, hm2⟩⟩
      · have S₈ := (Sep.bring (l₁ := [_, _, _]) S₇).sub (.cons_cons _ (.cons_cons _ (.cons_cons _ (.cons _ (.refl _)))))
        rw [List.map_append]
        exact S₈
      · intro x hx
        rcases List.mem_append.mp hx with hx | hx
        · exact (hrows x hx).mono fun _ h => .tail _ h
        · rw [List.mem_singleton.mp hx]
          refine ⟨_, .head _, .inr ⟨_, _, rfl, ?_⟩⟩
          rw [List.filter_eq_self.mpr (fun _ _ => rfl)] at hP
          have hI₄ := paired_ints (lo := lo) hP fun j v hv => by
            obtain ⟨_, t, e⟩ := hvs j v hv
            exact ⟨t, by rw [e, Int.mul_one]⟩
          rw [hvl, ← hlo] at hI₄
          exact hI₄
      · rw [List.map_append, hval, List.range_succ, List.map_append]; rfl
  · rintro h tk m₁ nw₁ ⟨rows, n', rest, rfl, hmcl, hmc, hrows, hval, hm⟩ S₁
    refine ⟨rfl, k h tk m₁ _ rows S₁ (.tail _ hmcl) (.tail _ hmc) ⟨⟨n', .head _⟩, fun x hx => (hrows x hx).mono fun _ h => .tail _ h⟩ ?_ ?_ (D.of fun y hy => hm y (by rintro rfl; revert hy; decide) (by rintro rfl; revert hy; decide)) (by rw [hm _ (by decide) (by decide)]; exact hf)⟩
    · intro l hl
      rw [hval] at hl
      obtain ⟨j, _, rfl⟩ := List.mem_map.mp hl
      exact ⟨rowF_len _ _ _, rowF_oct _ _ _⟩
    · have := congrArg List.length hval; simpa using this
end
end Mine

set_option maxRecDepth 100000
namespace Mine
open PySem PySem.W PyProof.Rows PySem.Calls

theorem foldl_replicate {α : Type} (v : α) : ∀ (k : Nat) (acc : Array α), (List.foldl (fun x1 x2 => x1 ++ x2) acc (List.replicate k #[v])).toList = acc.toList ++ List.replicate k v
  | 0, acc => by simp
  | k + 1, acc => by
    rw [List.replicate_succ, List.foldl_cons, foldl_replicate v k, List.replicate_succ]
    simp
theorem ints_replicate (t : Tok) : ∀ k : Nat, IntsAre (List.replicate k (.int 0 t)) (List.replicate k 0)
  | 0 => .nil
  | k + 1 => .cons _ _ (ints_replicate t k)
theorem zeros_at (k x : Nat) : (List.replicate k (0 : Int)).getD x 0 = 0 := by
  rw [List.getD_eq_getElem?_getD, List.getElem?_replicate]; split <;> rfl
theorem zeros_oct (k : Nat) : Octets (List.replicate k 0) := fun n hn => by
  rw [(List.mem_replicate.mp hn).2]; decide

section
variable {prog : Program} {w : World} {A : Around} {env : Env} {s : Shared} {h₀ : Heap} {m : Str → Option Value} {nw : List (Addr × Obj)} {mg mb : Str → Option Value}

theorem C_Expr {e : Expr} {pos : Pos} {Q : Flow → Shared → Prop} (h : wpC (model prog w) A (eval e env) (fun v s' => v = .none ∧ Q .next s') s)
    (hi : interactive env = false) (hs : swapsWith e none pos.line env = pure false) : wpC (model prog w) A (exec (.Expr e pos) env) Q s := by
  rw [exec_Expr env e pos hi hs]
  refine wpC_bind (wpC_standAt (wpC_bind (wpC_mono h ?_)))
  rintro v s' ⟨rfl, hq⟩
  rw [dropValue_plain (fun a e => by cases e)]
  exact wpC_pure hq

/-- bytearray(e), e a line that stands -/
theorem eval_ba {e : Expr} {p pos : Pos} {a : Addr} {ns : List Int} {Q : Value → Shared → Prop} (hf : Ev prog w A env s (.Name "bytearray" p) (fun v => v = .type "bytearray"))
    (hse : backTo pos (starEach [e] env) = [(false, eval e env)]) (he : Ev prog w A env s e (IsR a)) (hl : LineAt s.heap a ns) (hoct : Octets ns) (hz : ns.length ≤ 1000)
    (hQ : ∀ h' tk r, s.heap.get? r = none → h'.get? r = some (ba ns) → (∀ b o, s.heap.get? b = some o → h'.get? b = some o) → Q (.ref r) { s with heap := h', toks := tk }) :
    wpC (model prog w) A (eval (.Call (.Name "bytearray" p) [e] [] pos) env) Q s := by
  refine C_Call_Name hf fun f tk hf' => ?_
  subst hf'
  rw [hse]
  refine C_callWith_type rfl (C_evalArgs (C_spliced_cons (wpC_of (he.useAt fun v tk₂ e' => C_spliced_nil ?_))))
  subst e'
  refine call_bytearray (s := { s with toks := tk₂ }) hl hoct (by rw [sizeLine_eq]; omega) fun h' hr hk => hQ h' tk₂ _ ?_ hr hk
  show s.heap.get? s.heap.objs.size = none
  cases e : s.heap.get? s.heap.objs.size with
  | none => rfl
  | some o => exact absurd (Heap.lt_size e) (Nat.lt_irrefl _)

/-- bytearray([0] * (e * f)) -/
theorem eval_ba_zeros {e f : Expr} {k₀ : Nat} {p p₁ p₂ p₃ p₄ pos : Pos} {x y : Nat} {Q : Value → Shared → Prop} (S : Sep h₀ env.locals s.heap m nw) (hf : Ev prog w A env s (.Name "bytearray" p) (fun v => v = .type "bytearray"))
    (hse : backTo pos (starEach [.BinOp (.List [.Constant (.int 0) k₀ p₁] p₂) .Mult (.BinOp e .Mult f p₃) p₄] env) = [(false, eval (.BinOp (.List [.Constant (.int 0) k₀ p₁] p₂) .Mult (.BinOp e .Mult f p₃) p₄) env)])
    (hse' : backTo p₂ (starEach [.Constant (.int 0) k₀ p₁] env) = [(false, eval (.Constant (.int 0) k₀ p₁) env)])
    (he : ∀ h' tk, Sep h₀ env.locals h' m nw → Ev prog w A env { s with heap := h', toks := tk } e (IsI x)) (hf' : ∀ h' tk, Sep h₀ env.locals h' m nw → Ev prog w A env { s with heap := h', toks := tk } f (IsI y)) (hx : x ≤ 4) (hy : y ≤ 3)
    (hQ : ∀ h' tk r, Sep h₀ env.locals h' m ((r, ba (List.replicate (x * y) 0)) :: nw) → Q (.ref r) { s with heap := h', toks := tk }) :
    wpC (model prog w) A (eval (.Call (.Name "bytearray" p) [.BinOp (.List [.Constant (.int 0) k₀ p₁] p₂) .Mult (.BinOp e .Mult f p₃) p₄] [] pos) env) Q s := by
  have hxy : x * y ≤ 12 := Nat.mul_le_mul hx hy
  refine C_Call_Name hf fun v tk hv => ?_
  subst hv
  rw [hse]
  refine C_callWith_type rfl (C_evalArgs (C_spliced_cons (wpC_of (wpAny_BinOp (eval_list1 (s := { s with toks := tk }) Ev_const hse' fun v₁ tk₁ ⟨t₁, e₁⟩ => ?_)))))
  subst e₁
  have S₁ := S.push (lst [.int 0 t₁] 0)
  refine (Ev_mul (he _ tk₁ S₁.tail) (hf' _ tk₁ S₁.tail) (mulOk_left (by omega) (by omega))).use fun v₂ tk₂ ⟨t₂, e₂⟩ => ?_
  subst e₂
  have hn : ((x : Int) * y).toNat = x * y := by rw [← Int.natCast_mul, Int.toNat_natCast]
  have hle : (x : Int) * y ≤ 12 := by rw [← Int.natCast_mul]; omega
  have hge : 0 ≤ (x : Int) * y := by rw [← Int.natCast_mul]; omega
  refine mul_list (s := { s with heap := s.heap.push (lst [.int 0 t₁] 0), toks := tk₂ }) (items := #[.int 0 t₁]) S₁.F S₁.N (S₁.get (.head _)) (by omega) (by omega) (by rw [hn]; simp; omega) fun h₃ F₃ N₃ => ?_
  have S₃ := S₁.new_of (Nat.le_refl _) F₃ N₃
  rw [hn] at S₃
  generalize hg : List.foldl (fun x1 x2 => x1 ++ x2) #[] (List.replicate (if (#[Value.int 0 t₁]).isEmpty = true then 0 else x * y) #[Value.int 0 t₁]) = arr at S₃
  have harr : arr.toList = List.replicate (x * y) (.int 0 t₁) := by
    rw [← hg]
    have e := foldl_replicate (Value.int 0 t₁) (x * y) #[]
    simpa using e
  have hobj := S₃.get (.head _)
  have hl : LineAt h₃ _ (List.replicate (x * y) 0) := .inr ⟨arr.toList, 0, by rw [hobj], by rw [harr]; exact ints_replicate _ _⟩
  refine C_spliced_nil ?_
  refine call_bytearray (s := { s with heap := h₃, toks := tk₂ }) hl (zeros_oct _) (by rw [sizeLine_eq]; simp; omega) fun h₄ hr hk => ?_
  have S₄ := S₃.add hk (by
    cases e : h₃.get? h₃.objs.size with
    | none => rfl
    | some o => exact absurd (Heap.lt_size e) (Nat.lt_irrefl _)) hr
  exact hQ h₄ tk₂ _ (S₄.sub (.cons_cons _ (.cons _ (.cons _ (.refl _)))))
end
end Mine

set_option maxRecDepth 100000
namespace Mine
open PySem PySem.W PyProof.Rows PySem.Calls

def forBodyOf : Option Stmt → List Stmt
  | some (.For _ _ b _ _) => b
  | _ => []
abbrev kBody : List Stmt := forBodyOf lawBody[6]?
abbrev lineBody : List Stmt := forBodyOf kBody[1]?

def FnAt' (mg : Str → Option Value) (h : Heap) (name : Str) (k : Nat) : Prop := FnAt mg h name (paramsOf (stmtAt k)) (bodyOf (stmtAt k)) (scopeOf (stmtAt k))

theorem two_pow : ∀ j, j < 6 → 0 < (2 : Int) ^ j ∧ (2 : Int) ^ j < 1073741824 := by decide

def bitOf (cs : List Int) (i : Nat) : Int := cs.getD 1 0 / 2 ^ i % 2
theorem bit_01 (cs : List Int) (i : Nat) : bitOf cs i = 0 ∨ bitOf cs i = 1 := by unfold bitOf; omega
def Deed (b : Int) (u : Nat) (ns prev out : List Int) : Prop := if b = 0 then IsSub u ns out else IsUp ns prev out

section
variable {prog : Program} {w : World} {A : Around} {s : Shared} {h₀ : Heap} {m : Str → Option Value} {mg mb : Str → Option Value} {L fa c : Addr} {cd : Value}

/-- cells[1] // 2 ** k % 2 -/
theorem Ev_bit {cl : Addr} {cvs : List Value} {n : Nat} {cs : List Int} {oc : Obj} {i : Nat} {p₁ p₂ p₃ p₄ p₅ p₆ p₇ p₈ p₉ : Pos} (hn : s.heap.Ns L m) (hk : ∃ t, m "k" = some (.int (0 + (i : Nat)) t)) (hcl : s.heap.get? cl = some (lst cvs n)) (hc : s.heap.get? c = some oc) (hd : oc.data = .cell (some (.ref cl))) (hI : IntsAre cvs cs) (h2 : 2 ≤ cs.length) (hcs : cs.length ≤ 100) (hi : i < 6) :
    Ev prog w A (lawEnv L fa c cd) s (.BinOp (.BinOp (.Subscript (.Name "cells" p₁) (.Constant (.int 1) 0 p₂) p₃) .FloorDiv (.BinOp (.Constant (.int 2) 0 p₄) .Pow (.Name "k" p₅) p₆) p₇) .Mod (.Constant (.int 2) 0 p₈) p₉) (IsI (bitOf cs i)) := by
  have e : ((0 : Int) + (i : Nat)).toNat = i := by omega
  have hpow := two_pow i hi
  have hP := Ev_pow (pos := p₆) (prog := prog) (w := w) (A := A) (env := lawEnv L fa c cd) (s := s) (l := .Constant (.int 2) 0 p₄) (r := .Name "k" p₅) (a := 2) (b := 0 + (i : Nat)) Ev_const (Ev_localI hn hk) (by omega) (by
    have : Builtin.Int.intBits 2 = 2 := by decide
    rw [this]; omega)
  rw [e] at hP
  exact Ev_emod (Ev_div (Ev_cells0 (j := 1) rfl hcl hc hd hI (by omega) hcs) hP hpow.1 hpow.2) Ev_const (by decide)

set_option maxHeartbeats 1000000 in
theorem line_turn {Q : Flow → Shared → Prop} (hh : A.handled = none) (hroom : A.depth < recursionLimit) (R : Root mg mb h₀) (fS : FnAt' mg h₀ "undo_filter_sub" 1) (fU : FnAt' mg h₀ "undo_filter_up" 2)
    {oc : Obj} {cl fr a ab : Addr} {cvs refs : List Value} {n n' N u i : Nat} {cs ns prev : List Int} {p : Addr × Obj} {rest : List (Addr × Obj)}
    (S : Sep h₀ L s.heap m (p :: (fr, lst refs n') :: rest)) (mcl : (cl, lst cvs n) ∈ rest) (mc : (c, oc) ∈ rest) (hd : oc.data = .cell (some (.ref cl))) (hI : IntsAre cvs cs) (h2 : 2 ≤ cs.length) (hcs : cs.length ≤ 100) (hi : i < 6)
    (hline : m "line" = some (.ref a)) (hla : LineIn rest (a, ns)) (hoct : Octets ns) (hlen : ns.length = N) (hN : N ≤ 12) (habove : m "above" = some (.ref ab)) (mab : (ab, ba prev) ∈ rest) (hoctP : Octets prev) (hlenP : prev.length = N)
    (hfresh : m "fresh" = some (.ref fr)) (hrefs : refs.length ≤ 100) (hunit : ∃ t, m "unit" = some (.int u t)) (hu : 1 ≤ u) (hu3 : u ≤ 3) (hk : ∃ t, m "k" = some (.int (0 + (i : Nat)) t))
    (hQ : ∀ h tk m' n'' r out sc, Deed (bitOf cs i) u ns prev out → Sep h₀ L h m' (p :: (fr, lst (refs ++ [.ref r]) n'') :: (r, ba out) :: (sc, ba ns) :: rest) → m' "above" = some (.ref r) → (∀ y : Str, y ≠ "result" → y ≠ "above" → m' y = m y) → Q .next { s with heap := h, toks := tk }) :
    wpC (model prog w) A (execs lineBody (lawEnv L fa c cd)) Q s := by
  obtain ⟨tu, hunit⟩ := hunit
  have lineAt : ∀ {h : Heap} {nw : List (Addr × Obj)} {m' : Str → Option Value}, Sep h₀ L h m' nw → (∀ q ∈ rest, q ∈ nw) → LineAt h a ns := fun S' hs => by
    obtain ⟨o, hm, rfl | ⟨vs, ne, rfl, hvs⟩⟩ := hla
    · exact .inl (S'.get (hs _ hm))
    · exact .inr ⟨vs, ne, S'.get (hs _ hm), hvs⟩
  -- result = bytearray(line)
  refine C_cons (S_assignC rfl rfl rfl (eval_ba (Ev_builtin (R.keeps S.F.keep) R.ba.1 R.ba.2) rfl (Ev_local S.F.ns hline) (lineAt S fun q hq => .tail _ (.tail _ hq)) hoct (by omega) fun h₁ tk₁ r hn₁ hr₁ hk₁ =>
    ⟨h₀, m, _, S.add hk₁ hn₁ hr₁, fun h₂ tk₂ S₂ => ⟨rfl, ?_⟩⟩))
  have hm₂ : ∀ y : Str, y ≠ "result" → upd m "result" (.ref r) y = m y := fun y hy => upd_ne hy
  -- what comes behind the deed
  have tail : ∀ h tk sc out, Deed (bitOf cs i) u ns prev out → Sep h₀ L h (upd m "result" (.ref r)) ((r, ba out) :: (sc, ba ns) :: p :: (fr, lst refs n') :: rest) → wpC (model prog w) A (execs (lineBody.drop 2) (lawEnv L fa c cd)) Q { s with heap := h, toks := tk } := by
    intro h tk sc out hout S₃
    refine C_cons (S_append (Ev_local S₃.F.ns (by rw [hm₂ _ (by decide)]; exact hfresh)) ⟨_, _, S₃.get (.tail _ (.tail _ (.tail _ (.head _))))⟩ (fun tk₄ => (Ev_local S₃.F.ns (upd_same _ _ _)).useAt fun v tk₅ e => ?_) rfl rfl rfl rfl rfl)
    subst e
    refine ⟨h₀, _, _, refs, n', Sep.bring (l₁ := [_, _, _]) S₃, by omega, fun h₄ tk₆ n'' S₄ => ⟨rfl, ?_⟩⟩
    refine C_one (S_assign S₄ (Ev_local S₄.F.ns (upd_same _ _ _)) rfl rfl rfl fun v h₅ tk₇ e S₅ => ?_)
    subst e
    refine hQ h₅ tk₇ (upd (upd m "result" (.ref r)) "above" (.ref r)) n'' r out sc hout ?_ (upd_same _ _ _) fun y h1 h2 => by rw [upd_ne h2, upd_ne h1]
    exact Sep.bring (l₁ := [_, _, _]) S₅
  -- if cells[1] // 2 ** k % 2 == 0
  have mcl₂ : (cl, lst cvs n) ∈ (r, ba ns) :: p :: (fr, lst refs n') :: rest := .tail _ (.tail _ (.tail _ mcl))
  have mc₂ : (c, oc) ∈ (r, ba ns) :: p :: (fr, lst refs n') :: rest := .tail _ (.tail _ (.tail _ mc))
  refine C_cons (C_If (c := (bitOf cs i == 0)) (test_eq (Ev_bit S₂.F.ns (by rw [hm₂ _ (by decide)]; exact hk) (S₂.get mcl₂) (S₂.get mc₂) hd hI h2 hcs hi) Ev_const rfl _ _) (fun hb tk₃ => ?_) (fun hb tk₃ => ?_))
  · -- undo_filter_sub
    have hb : bitOf cs i = 0 := by simpa using hb
    obtain ⟨fa₁, o₁, pm₁, cd₁, doc₁, hg₁, ho₁, hd₁, hcd₁⟩ := fS
    refine C_one (C_Expr (C_Call_Name (Ev_global (R.keeps S₂.F.keep) hg₁) fun f tk₄ hf => ?_) rfl rfl)
    subst hf
    show wpC _ _ (callWith _ _ [] [(false, eval _ _), (false, eval _ _), (false, eval _ _), (false, eval _ _)] []) _ _
    refine C_callWith_fn (o := o₁) (fd := docDef "undo_filter_sub" (paramsOf (stmtAt 1)) (bodyOf (stmtAt 1)) (scopeOf (stmtAt 1)) pm₁ cd₁ doc₁) rfl (by show 4 ≤ 30; decide) (C_evalArgs (C_spliced_cons (wpC_of ((Ev_local (s := { s with heap := h₂ }) S₂.F.ns (by rw [hm₂ _ (by decide)]; exact hunit)).useAt fun v₁ tk₅ e₁ => C_spliced_cons ?_))))
    subst e₁
    refine eval_ba (s := { s with heap := h₂, toks := tk₅ }) (Ev_builtin (R.keeps S₂.F.keep) R.ba.1 R.ba.2) rfl (Ev_local S₂.F.ns (by rw [hm₂ _ (by decide)]; exact hline)) (lineAt S₂ fun q hq => .tail _ (.tail _ (.tail _ hq))) hoct (by omega) fun h₃ tk₆ sc hn₃ hr₃ hk₃ => ?_
    have S₃ := S₂.add hk₃ hn₃ hr₃
    refine C_spliced_cons (wpC_of ((Ev_local (s := { s with heap := h₃ }) S₃.F.ns (by rw [hm₂ _ (by decide)]; exact habove)).useAt fun v₃ tk₇ e₃ => C_spliced_cons (wpC_of ((Ev_local (s := { s with heap := h₃ }) S₃.F.ns (upd_same _ _ _)).useAt fun v₄ tk₈ e₄ => C_spliced_nil ?_))))
    subst e₃; subst e₄
    refine ⟨⟨S₃.base ho₁, hd₁⟩, ?_⟩
    have hne : sc ≠ r := fun e => by rw [e] at hn₃; rw [S₂.get (.head _)] at hn₃; cases hn₃
    refine call_sub (s := { s with heap := h₃, toks := tk₈ }) (g := h₀) (S := ns) (u := u) hh hroom R S₃.F.keep (S₃.N _ (.tail _ (.head _))).2.2 (S₃.base ho₁) hd₁ (hcd₁.keeps S₃.F.keep) (S₃.get (.tail _ (.head _))) (S₃.get (.head _)) hne hoct (by omega) hu hu3 fun h₄ tk₉ out hout hr₄ hx₄ => ⟨rfl, rfl, ?_⟩
    have S₄ := (Sep.bring (l₁ := [_]) S₃).turn hx₄ hr₄
    exact tail h₄ tk₉ sc out (by unfold Deed; rw [if_pos hb]; exact hout) S₄
  · -- undo_filter_up
    have hb : ¬ bitOf cs i = 0 := by simpa using hb
    obtain ⟨fa₁, o₁, pm₁, cd₁, doc₁, hg₁, ho₁, hd₁, hcd₁⟩ := fU
    refine C_one (C_Expr (C_Call_Name (Ev_global (R.keeps S₂.F.keep) hg₁) fun f tk₄ hf => ?_) rfl rfl)
    subst hf
    show wpC _ _ (callWith _ _ [] [(false, eval _ _), (false, eval _ _), (false, eval _ _), (false, eval _ _)] []) _ _
    refine C_callWith_fn (o := o₁) (fd := docDef "undo_filter_up" (paramsOf (stmtAt 2)) (bodyOf (stmtAt 2)) (scopeOf (stmtAt 2)) pm₁ cd₁ doc₁) rfl (by show 4 ≤ 30; decide) (C_evalArgs (C_spliced_cons (wpC_of ((Ev_local (s := { s with heap := h₂ }) S₂.F.ns (by rw [hm₂ _ (by decide)]; exact hunit)).useAt fun v₁ tk₅ e₁ => C_spliced_cons ?_))))
    subst e₁
    refine eval_ba (s := { s with heap := h₂, toks := tk₅ }) (Ev_builtin (R.keeps S₂.F.keep) R.ba.1 R.ba.2) rfl (Ev_local S₂.F.ns (by rw [hm₂ _ (by decide)]; exact hline)) (lineAt S₂ fun q hq => .tail _ (.tail _ (.tail _ hq))) hoct (by omega) fun h₃ tk₆ sc hn₃ hr₃ hk₃ => ?_
    have S₃ := S₂.add hk₃ hn₃ hr₃
    refine C_spliced_cons (wpC_of ((Ev_local (s := { s with heap := h₃ }) S₃.F.ns (by rw [hm₂ _ (by decide)]; exact habove)).useAt fun v₃ tk₇ e₃ => C_spliced_cons (wpC_of ((Ev_local (s := { s with heap := h₃ }) S₃.F.ns (upd_same _ _ _)).useAt fun v₄ tk₈ e₄ => C_spliced_nil ?_))))
    subst e₃; subst e₄
    refine ⟨⟨S₃.base ho₁, hd₁⟩, ?_⟩
    have hne : sc ≠ r := fun e => by rw [e] at hn₃; rw [S₂.get (.head _)] at hn₃; cases hn₃
    have mab₂ : (ab, ba prev) ∈ p :: (fr, lst refs n') :: rest := .tail _ (.tail _ mab)
    have hne₂ : ab ≠ r := rangeIter_ne S₂ mab₂
    refine call_up (s := { s with heap := h₃, toks := tk₈ }) (g := h₀) (S := ns) (P := prev) hh hroom R S₃.F.keep (S₃.N _ (.tail _ (.head _))).2.2 (S₃.base ho₁) hd₁ (hcd₁.keeps S₃.F.keep) (S₃.get (.tail _ (.head _))) (S₃.get (.head _)) (S₃.get (.tail _ (.tail _ mab₂))) hne hne₂ hoct hoctP (by omega) (by omega) fun h₄ tk₉ out hout hr₄ hx₄ => ⟨rfl, rfl, ?_⟩
    have S₄ := (Sep.bring (l₁ := [_]) S₃).turn hx₄ hr₄
    exact tail h₄ tk₉ sc out (by unfold Deed; rw [if_neg hb]; exact hout) S₄
end
end Mine

set_option maxRecDepth 100000
namespace Mine
open PySem PySem.W PyProof.Rows PySem.Calls

theorem deed_len {b : Int} {u : Nat} {ns prev out : List Int} (h : Deed b u ns prev out) : out.length = ns.length ∧ Octets out := by
  unfold Deed at h; split at h
  · exact ⟨h.1, h.2.1⟩
  · exact ⟨h.1, h.2.1⟩

theorem getD_append_left {α : Type} (l l' : List α) (d : α) {i : Nat} (h : i < l.length) : (l ++ l').getD i d = l.getD i d := by
  simp only [List.getD_eq_getElem?_getD, List.getElem?_append_left h]
theorem getD_append_self {α : Type} (l : List α) (x d : α) : (l ++ [x]).getD l.length d = x := by
  simp [List.getD_eq_getElem?_getD]

section
variable {prog : Program} {w : World} {A : Around} {s : Shared} {h₀ : Heap} {m : Str → Option Value} {mg mb : Str → Option Value} {L fa c : Addr} {cd : Value}

set_option maxHeartbeats 1000000 in
theorem k_turn {Q : Flow → Shared → Prop} (hh : A.handled = none) (hroom : A.depth < recursionLimit) (R : Root mg mb h₀) (fS : FnAt' mg h₀ "undo_filter_sub" 1) (fU : FnAt' mg h₀ "undo_filter_up" 2)
    {oc : Obj} {cl ln : Addr} {cvs : List Value} {n i u wd hi mn : Nat} {cs : List Int} {p : Addr × Obj} {nw : List (Addr × Obj)} {rows : List (Addr × List Int)} {b : Int}
    (S : Sep h₀ L s.heap m (p :: nw)) (mcl : (cl, lst cvs n) ∈ nw) (mc : (c, oc) ∈ nw) (hd : oc.data = .cell (some (.ref cl))) (hI : IntsAre cvs cs) (h2 : 2 ≤ cs.length) (hcs : cs.length ≤ 100) (hi6 : i < 6)
    (D : Dims m u wd hi mn) (hT : TabAt nw ln rows) (hS : Sized (wd * u) (rows.map (·.2))) (hrl : rows.length = hi) (hlines : m "lines" = some (.ref ln)) (hups : ∃ t, m "ups" = some (.int b t)) (hk : ∃ t, m "k" = some (.int (0 + (i : Nat)) t))
    (hQ : ∀ h tk m' ln' rows' nw', Sep h₀ L h m' (p :: nw') → (∀ q ∈ nw, q ∈ nw') → TabAt nw' ln' rows' → Sized (wd * u) (rows'.map (·.2)) → rows'.length = rows.length → m' "lines" = some (.ref ln') → (∃ t, m' "ups" = some (.int (b + bitOf cs i) t)) →
      (∀ y : Str, y ≠ "fresh" → y ≠ "above" → y ≠ "line" → y ≠ "result" → y ≠ "lines" → y ≠ "ups" → m' y = m y) →
      (∀ y, y < rows.length → Deed (bitOf cs i) u ((rows.map (·.2)).getD y []) (if y = 0 then List.replicate (wd * u) 0 else (rows'.map (·.2)).getD (y - 1) []) ((rows'.map (·.2)).getD y [])) → Q .next { s with heap := h, toks := tk }) :
    wpC (model prog w) A (execs kBody (lawEnv L fa c cd)) Q s := by
  have hwu : wd * u ≤ 12 := Nat.mul_le_mul D.w4 D.u3
  have hhi := D.h4
  -- fresh, above = ([], bytearray([0] * (wide * unit)))
  refine C_cons (S_tupleC (names := ["fresh", "above"]) hh ?_ rfl rfl)
  show wpC _ _ (spliced [(false, eval _ _), (false, eval _ _)]) _ _
  refine C_spliced_cons (wpC_of (eval_list0 rfl fun tk₁ => C_spliced_cons ?_))
  have S₁ := S.push (lst [] 0)
  generalize s.heap.objs.size = fr at S₁ ⊢
  refine eval_ba_zeros S₁ (Ev_builtin (R.keeps S₁.F.keep) R.ba.1 R.ba.2) rfl rfl (fun h' tk S' => Ev_localI S'.F.ns D.wide) (fun h' tk S' => Ev_localI S'.F.ns D.unit) D.w4 D.u3 fun h₂ tk₂ ab S₂ => C_spliced_nil ?_
  refine ⟨h₀, m, _, rfl, by show 2 ≤ 100; decide, S₂, fun h₃ tk₃ S₃ => assign2 (s := { s with heap := h₃, toks := tk₃ }) S₃ rfl rfl rfl fun h₄ tk₄ S₄ => ⟨rfl, ?_⟩⟩
  have hm₄ : ∀ y : Str, y ≠ "fresh" → y ≠ "above" → upd (upd m "above" (.ref ab)) "fresh" (.ref fr) y = m y := fun y h1 h2 => by rw [upd_ne h1, upd_ne h2]
  obtain ⟨⟨nl, mln⟩, hrowsIn⟩ := hT
  -- for line in lines
  have S₅ := Sep.bring (l₁ := [_]) S₄
  refine C_cons (C_for_list (l := ln) (vs := rows.map fun x => Value.ref x.1) (ne := nl) (fun t m₂ nw₂ => ∃ (outs : List (Addr × List Int)) (extra : List (Addr × Obj)) (n' : Nat), nw₂ = (fr, lst (outs.map fun x => Value.ref x.1) n') :: (extra ++ p :: nw) ∧ (∀ x ∈ outs, (x.1, ba x.2) ∈ extra) ∧ outs.length = t ∧
      (∃ ab', m₂ "above" = some (.ref ab') ∧ (ab', ba (if t = 0 then List.replicate (wd * u) 0 else (outs.map (·.2)).getD (t - 1) [])) ∈ extra) ∧ Sized (wd * u) (outs.map (·.2)) ∧
      (∀ y, y < t → Deed (bitOf cs i) u ((rows.map (·.2)).getD y []) (if y = 0 then List.replicate (wd * u) 0 else (outs.map (·.2)).getD (y - 1) []) ((outs.map (·.2)).getD y [])) ∧
      m₂ "fresh" = some (.ref fr) ∧ ∀ y : Str, y ≠ "fresh" → y ≠ "above" → y ≠ "line" → y ≠ "result" → m₂ y = m y) hh S₅
    ⟨[], [(ab, ba (List.replicate (wd * u) 0))], 0, rfl, fun _ h => (nomatch h), rfl, ⟨ab, by rw [upd_ne (by decide), upd_same], .head _⟩, fun _ h => (nomatch h), fun _ h => absurd h (Nat.not_lt_zero _), upd_same _ _ _, fun y h1 h2 _ _ => hm₄ y h1 h2⟩
    (Ev_local S₅.F.ns (by rw [hm₄ _ (by decide) (by decide)]; exact hlines)) ?_ rfl rfl ?_ ?_)
  · rintro t m₂ nw₂ ⟨outs, extra, n', rfl, _⟩
    exact .tail _ (List.mem_append_right _ (.tail _ mln))
  · rintro t v m₂ nw₂ q h tk ht hv ⟨outs, extra, n', rfl, houts, hol, ⟨ab', hab', mab'⟩, hSo, hdeeds, hfr, hm⟩ S₆
    rw [List.length_map] at ht
    have hx : rows[t]? = some rows[t] := List.getElem?_eq_getElem ht
    have hv' : v = .ref rows[t].1 := by rw [List.getElem?_map, hx] at hv; exact (Option.some.inj hv).symm
    subst hv'
    have hrow : (rows.map (·.2)).getD t [] = rows[t].2 := by simp [List.getD_eq_getElem?_getD, ht]
    have hsz := hS rows[t].2 (List.mem_map_of_mem (List.getElem_mem ht))
    have hol' : (outs.map (·.2)).length = t := by rw [List.length_map]; exact hol
    have hprev : Octets (if t = 0 then List.replicate (wd * u) 0 else (outs.map (·.2)).getD (t - 1) []) ∧ (if t = 0 then List.replicate (wd * u) 0 else (outs.map (·.2)).getD (t - 1) []).length = wd * u := by
      split
      · exact ⟨zeros_oct _, List.length_replicate ..⟩
      · have := hSo.at (y := t - 1) (by omega)
        exact ⟨this.2, this.1⟩
    have hm₆ : ∀ y : Str, y ≠ "line" → upd m₂ "line" (.ref rows[t].1) y = m₂ y := fun y hy => upd_ne hy
    refine line_turn (rest := extra ++ p :: nw) (cl := cl) (cvs := cvs) (ns := rows[t].2) (a := rows[t].1) (N := wd * u) (u := u) (i := i) hh hroom R fS fU S₆ (List.mem_append_right _ (.tail _ mcl)) (List.mem_append_right _ (.tail _ mc)) hd hI h2 hcs hi6 (upd_same _ _ _)
      ((hrowsIn rows[t] (List.getElem_mem ht)).mono fun q hq => List.mem_append_right _ (.tail _ hq)) hsz.2 hsz.1 hwu (by rw [hm₆ _ (by decide)]; exact hab') (List.mem_append_left _ mab') hprev.1 hprev.2 (by rw [hm₆ _ (by decide)]; exact hfr) (by rw [List.length_map]; omega)
      (by rw [hm₆ _ (by decide), hm _ (by decide) (by decide) (by decide) (by decide)]; exact D.unit) D.u1 D.u3 (by rw [hm₆ _ (by decide), hm _ (by decide) (by decide) (by decide) (by decide)]; exact hk) ?_
    intro h₇ tk₇ m₇ n₇ r out sc hdeed S₇ hab₇ hm₇
    have hmap : (outs ++ [(r, out)]).map (fun x => x.2) = outs.map (fun x => x.2) ++ [out] := by simp
    refine ⟨rfl, h₇, tk₇, m₇, _, rfl, ?_, outs ++ [(r, out)], (r, ba out) :: (sc, ba rows[t].2) :: extra, n₇, rfl, ?_, by simp [hol], ⟨r, hab₇, ?_⟩, ?_, ?_, ?_, ?_⟩
    · rw [List.map_append]; exact S₇
    · intro x hx
      rcases List.mem_append.mp hx with hx | hx
      · exact .tail _ (.tail _ (houts x hx))
      · rw [List.mem_singleton.mp hx]; exact .head _
    · rw [if_neg (by omega), hmap, show t + 1 - 1 = (outs.map fun x => x.2).length by rw [hol']; omega, getD_append_self]
      exact .head _
    · rw [hmap]
      intro l hl
      rcases List.mem_append.mp hl with hl | hl
      · exact hSo l hl
      · rw [List.mem_singleton.mp hl]
        have := deed_len hdeed
        exact ⟨this.1.trans hsz.1, this.2⟩
    · intro y hy
      rw [hmap]
      by_cases e : y = t
      · subst e
        have e2 : (outs.map (fun x => x.2) ++ [out]).getD y [] = out := by
          have := getD_append_self (outs.map fun x => x.2) out []
          rwa [hol'] at this
        rw [e2, hrow]
        by_cases h0 : y = 0
        · rw [if_pos h0] at hdeed ⊢; exact hdeed
        · rw [if_neg h0] at hdeed ⊢
          rw [getD_append_left (i := y - 1) _ _ _ (by omega)]; exact hdeed
      · have hlt : y < t := by omega
        have := hdeeds y hlt
        rw [getD_append_left (i := y) _ _ _ (by omega)]
        by_cases h0 : y = 0
        · rw [if_pos h0] at this ⊢; exact this
        · rw [if_neg h0] at this ⊢
          rw [getD_append_left (i := y - 1) _ _ _ (by omega)]; exact this
    · rw [hm₇ _ (by decide) (by decide), hm₆ _ (by decide)]; exact hfr
    · intro y e1 e2 e3 e4
      rw [hm₇ y e4 e2, hm₆ y e3]; exact hm y e1 e2 e3 e4
  · rintro h tk m₂ nw₂ ⟨outs, extra, n', rfl, houts, hol, _, hSo, hdeeds, hfr, hm⟩ S₆
    rw [List.length_map] at hol hdeeds
    refine ⟨rfl, ?_⟩
    have S₇ := Sep.bring (l₁ := (fr, lst (outs.map fun x => Value.ref x.1) n') :: extra) S₆
    -- lines = fresh
    refine C_cons (S_assign S₇ (Ev_local S₇.F.ns hfr) rfl rfl rfl fun v h₈ tk₈ e S₈ => ⟨rfl, ?_⟩)
    subst e
    have mcl' : (cl, lst cvs n) ∈ p :: ((fr, lst (outs.map fun x => Value.ref x.1) n') :: extra ++ nw) := .tail _ (List.mem_append_right _ mcl)
    have mc' : (c, oc) ∈ p :: ((fr, lst (outs.map fun x => Value.ref x.1) n') :: extra ++ nw) := .tail _ (List.mem_append_right _ mc)
    -- ups += ..
    refine C_one (S_augadd S₈ (a := b) (by rw [upd_ne (by decide), hm _ (by decide) (by decide) (by decide) (by decide)]; exact hups)
      (Ev_bit (i := i) S₈.F.ns (by rw [upd_ne (by decide), hm _ (by decide) (by decide) (by decide) (by decide)]; exact hk) (S₈.get mcl') (S₈.get mc') hd hI h2 hcs hi6) rfl rfl rfl fun t₉ h₉ tk₉ S₉ => ?_)
    refine hQ h₉ tk₉ _ fr outs _ S₉ (fun q hq => List.mem_append_right _ hq) ⟨⟨n', .head _⟩, fun x hx => ⟨_, .tail _ (List.mem_append_left _ (houts x hx)), .inl rfl⟩⟩ hSo hol (by rw [upd_ne (by decide), upd_same]) ⟨t₉, upd_same _ _ _⟩ ?_ hdeeds
    intro y e1 e2 e3 e4 e5 e6
    rw [upd_ne e6, upd_ne e5]; exact hm y e1 e2 e3 e4
end
end Mine

set_option maxRecDepth 100000
namespace Mine
open PySem PySem.W PyProof.Rows PySem.Calls

def cellF (rows : List (Addr × List Int)) (y x : Nat) : Int := ((rows.map (·.2)).getD y []).getD x 0

section
variable {prog : Program} {w : World} {A : Around} {s : Shared} {h₀ : Heap} {m : Str → Option Value} {mg mb : Str → Option Value} {L fa c : Addr} {cd : Value}

theorem st6 {Q : Flow → Shared → Prop} (hh : A.handled = none) (hroom : A.depth < recursionLimit) (R : Root mg mb h₀) (fS : FnAt' mg h₀ "undo_filter_sub" 1) (fU : FnAt' mg h₀ "undo_filter_up" 2)
    {oc : Obj} {cl f0 : Addr} {cvs : List Value} {n u wd hi mn : Nat} {cs : List Int} {nw : List (Addr × Obj)} {rows : List (Addr × List Int)}
    (S : Sep h₀ L s.heap m nw) (mcl : (cl, lst cvs n) ∈ nw) (mc : (c, oc) ∈ nw) (hd : oc.data = .cell (some (.ref cl))) (hI : IntsAre cvs cs) (h2 : 2 ≤ cs.length) (hcs : cs.length ≤ 100)
    (D : Dims m u wd hi mn) (hT : TabAt nw f0 rows) (hS : Sized (wd * u) (rows.map (·.2))) (hrl : rows.length = hi) (hf : m "first" = some (.ref f0))
    (k : ∀ h tk m' nw' ln rows' a b, Sep h₀ L h m' nw' → (∀ q ∈ nw, q ∈ nw') → TabAt nw' ln rows' → Sized (wd * u) (rows'.map (·.2)) → rows'.length = hi → m' "lines" = some (.ref ln) → (∃ t, m' "ups" = some (.int ((b : Nat) : Int) t)) → a + b = mn →
      Inv (cellF rows) u a b (wd * u) (rows'.map (·.2)) → Dims m' u wd hi mn → m' "first" = some (.ref f0) → wpC (model prog w) A (execs (lawBody.drop 7) (lawEnv L fa c cd)) Q { s with heap := h, toks := tk }) :
    wpC (model prog w) A (execs (lawBody.drop 5) (lawEnv L fa c cd)) Q s := by
  have hm6 := D.m6
  refine C_cons (S_tupleC (names := ["lines", "ups"]) hh ?_ rfl rfl)
  show wpC _ _ (spliced [(false, eval _ _), (false, eval _ _)]) _ _
  refine C_spliced_cons (wpC_of ((Ev_local S.F.ns hf).use fun v₁ tk₁ e₁ => C_spliced_cons (wpC_of (Ev_const.useAt fun v₂ tk₂ ⟨t₂, e₂⟩ => C_spliced_nil ?_))))
  subst e₁; subst e₂
  refine ⟨h₀, m, _, rfl, by show 2 ≤ 100; decide, S, fun h₁ tk₃ S₁ => assign2 (s := { s with heap := h₁, toks := tk₃ }) S₁ rfl rfl rfl fun h₂ tk₄ S₂ => ⟨rfl, ?_⟩⟩
  have hm₂ : ∀ y : Str, y ≠ "lines" → y ≠ "ups" → upd (upd m "ups" (.int 0 t₂)) "lines" (.ref f0) y = m y := fun y h1 h2 => by rw [upd_ne h1, upd_ne h2]
  refine C_cons (C_for_range (lo := 0) (hi := (mn : Int)) (n := mn) (fun t m' nw' => ∃ (ln : Addr) (rows' : List (Addr × List Int)) (a b : Nat), a + b = t ∧ m' "lines" = some (.ref ln) ∧ (∃ t, m' "ups" = some (.int ((b : Nat) : Int) t)) ∧ TabAt nw' ln rows' ∧ Sized (wd * u) (rows'.map (·.2)) ∧ rows'.length = hi ∧
      Inv (cellF rows) u a b (wd * u) (rows'.map (·.2)) ∧ (∀ q ∈ nw, q ∈ nw') ∧ ∀ y : Str, y ≠ "k" → y ≠ "fresh" → y ≠ "above" → y ≠ "line" → y ≠ "result" → y ≠ "lines" → y ≠ "ups" → m' y = m y) hh S₂
    ⟨f0, rows, 0, 0, rfl, upd_same _ _ _, ⟨t₂, by rw [upd_ne (by decide), upd_same]; rfl⟩, hT, hS, hrl, inv_start hS (fun _ _ _ _ => rfl), fun _ h => h, fun y _ _ _ _ _ h1 h2 => hm₂ y h1 h2⟩ ?_ (by omega) (by omega) (by omega) (by omega) (by omega) rfl rfl ?_ ?_)
  · intro Q' hQ'
    exact eval_range1 (Ev_builtin (R.keeps S₂.F.keep) R.range.1 R.range.2) (Ev_localI S₂.F.ns (by rw [hm₂ _ (by decide) (by decide)]; exact D.many)) rfl rfl hQ'
  · rintro i t' m₁ nw₁ p h tk hlt ⟨ln, rows', a, b, hab, hln, hups, hT₁, hS₁, hl₁, hInv, hsub, hm⟩ S₃
    have hm₃ : ∀ y : Str, y ≠ "k" → upd m₁ "k" (.int (0 + (i : Nat)) t') y = m₁ y := fun y hy => upd_ne hy
    have D₃ : Dims (upd m₁ "k" (.int (0 + (i : Nat)) t')) u wd hi mn := D.of fun y hy => by
      rw [hm₃ _ (by rintro rfl; revert hy; decide)]
      refine hm y ?_ ?_ ?_ ?_ ?_ ?_ ?_ <;> (rintro rfl; revert hy; decide)
    refine k_turn (cl := cl) (cvs := cvs) (cs := cs) (i := i) (u := u) (wd := wd) (hi := hi) (ln := ln) (rows := rows') (b := (b : Int)) hh hroom R fS fU S₃ (hsub _ mcl) (hsub _ mc) hd hI h2 hcs (by omega) D₃ hT₁ hS₁ hl₁ (by rw [hm₃ _ (by decide)]; exact hln) (by rw [hm₃ _ (by decide)]; exact hups) ⟨t', upd_same _ _ _⟩ ?_
    intro h₄ tk₄ m₄ ln₄ rows₄ nw₄ S₄ hsub₄ hT₄ hS₄ hl₄ hln₄ hups₄ hm₄ hdeeds
    have hmm : ∀ y : Str, y ≠ "k" → y ≠ "fresh" → y ≠ "above" → y ≠ "line" → y ≠ "result" → y ≠ "lines" → y ≠ "ups" → m₄ y = m y := fun y e0 e1 e2 e3 e4 e5 e6 => by
      rw [hm₄ y e1 e2 e3 e4 e5 e6, hm₃ y e0, hm y e0 e1 e2 e3 e4 e5 e6]
    have hsub' : ∀ q ∈ nw, q ∈ nw₄ := fun q hq => hsub₄ q (hsub q hq)
    have hlen : (rows₄.map (·.2)).length = (rows'.map (·.2)).length := by simp [hl₄]
    rcases bit_01 cs i with hb | hb
    · refine ⟨rfl, h₄, tk₄, m₄, nw₄, rfl, S₄, ln₄, rows₄, a + 1, b, by omega, hln₄, ?_, hT₄, hS₄, by omega, ?_, hsub', hmm⟩
      · rw [hb, Int.add_zero] at hups₄; exact hups₄
      · refine inv_sub D.u1 hInv hS₁ hlen fun y hy => ?_
        have := hdeeds y (by simpa using hy)
        unfold Deed at this
        rwa [if_pos hb] at this
    · refine ⟨rfl, h₄, tk₄, m₄, nw₄, rfl, S₄, ln₄, rows₄, a, b + 1, by omega, hln₄, ?_, hT₄, hS₄, by omega, ?_, hsub', hmm⟩
      · rw [hb] at hups₄; exact hups₄
      · refine inv_up (z := List.replicate (wd * u) 0) (zeros_at _) hInv hS₁ hlen fun y hy => ?_
        have := hdeeds y (by simpa using hy)
        unfold Deed at this
        rwa [if_neg (by omega)] at this
  · rintro h tk m₁ nw₁ ⟨ln, rows', a, b, hab, hln, hups, hT₁, hS₁, hl₁, hInv, hsub, hm⟩ S₃
    refine ⟨rfl, k h tk m₁ nw₁ ln rows' a b S₃ hsub hT₁ hS₁ hl₁ hln hups hab hInv (D.of fun y hy => ?_) ?_⟩
    · refine hm y ?_ ?_ ?_ ?_ ?_ ?_ ?_ <;> (rintro rfl; revert hy; decide)
    · rw [hm _ (by decide) (by decide) (by decide) (by decide) (by decide) (by decide) (by decide)]; exact hf

theorem st7 {Q : Flow → Shared → Prop} (hh : A.handled = none) (hroom : A.depth < recursionLimit) (R : Root mg mb h₀) (fW : FnAt' mg h₀ "_law_weights" 4)
    {u wd hi mn a b : Nat} {nw : List (Addr × Obj)} (S : Sep h₀ L s.heap m nw) (D : Dims m u wd hi mn) (hups : ∃ t, m "ups" = some (.int ((b : Nat) : Int) t)) (hab : a + b = mn)
    (k : ∀ h tk m' ac dn va na vd nd, Sep h₀ L h m' ((dn, lst vd nd) :: (ac, lst va na) :: nw) → IntsAre va (Ws a wd) → IntsAre vd (Ws b hi) → m' "across" = some (.ref ac) → m' "down" = some (.ref dn) → (∀ y : Str, y ≠ "across" → y ≠ "down" → m' y = m y) →
      wpC (model prog w) A (execs (lawBody.drop 8) (lawEnv L fa c cd)) Q { s with heap := h, toks := tk }) :
    wpC (model prog w) A (execs (lawBody.drop 7) (lawEnv L fa c cd)) Q s := by
  have hm6 := D.m6
  obtain ⟨fa₁, o₁, pm₁, cd₁, doc₁, hg₁, ho₁, hd₁, hcd₁⟩ := fW
  obtain ⟨tm, hmany⟩ := D.many
  obtain ⟨tw, hwide⟩ := D.wide
  obtain ⟨th, hhigh⟩ := D.high
  obtain ⟨tu, hups⟩ := hups
  have hsubab : (mn : Int) - (b : Nat) = ((a : Nat) : Int) := by omega
  refine C_cons (S_tupleC (names := ["across", "down"]) hh ?_ rfl rfl)
  show wpC _ _ (spliced [(false, eval _ _), (false, eval _ _)]) _ _
  refine C_spliced_cons (C_Call_Name (Ev_global (R.keeps S.F.keep) hg₁) fun f tk₁ hf => ?_)
  subst hf
  show wpC _ _ (callWith _ _ [] [(false, eval _ _), (false, eval _ _)] []) _ _
  refine C_callWith_fn (o := o₁) (fd := docDef "_law_weights" (paramsOf (stmtAt 4)) (bodyOf (stmtAt 4)) (scopeOf (stmtAt 4)) pm₁ cd₁ doc₁) rfl (by show 2 ≤ 30; decide)
    (C_evalArgs (C_spliced_cons (wpC_of ((Ev_sub (a := (mn : Int)) (b := ((b : Nat) : Int)) (Ev_localI S.F.ns ⟨tm, hmany⟩) (Ev_localI S.F.ns ⟨tu, hups⟩)).useAt fun v₁ tk₂ ⟨t₁, e₁⟩ => C_spliced_cons (wpC_of ((Ev_local S.F.ns hwide).useAt fun v₂ tk₃ e₂ => C_spliced_nil ?_))))))
  subst e₁; subst e₂
  rw [hsubab]
  refine ⟨⟨S.base ho₁, hd₁⟩, ?_⟩
  refine call_weights (s := { s with toks := tk₃ }) (g := h₀) hh hroom R S.F.keep (S.base ho₁) hd₁ (hcd₁.keeps S.F.keep) (by omega) D.w1 D.w4 fun h₂ tk₄ ac va na hIa hn₂ hr₂ hk₂ => ?_
  have S₂ := S.add hk₂ hn₂ hr₂
  refine C_spliced_cons (C_Call_Name (Ev_global (s := { s with heap := h₂, toks := tk₄ }) (R.keeps S₂.F.keep) hg₁) fun f tk₅ hf => ?_)
  subst hf
  show wpC _ _ (callWith _ _ [] [(false, eval _ _), (false, eval _ _)] []) _ _
  refine C_callWith_fn (o := o₁) (fd := docDef "_law_weights" (paramsOf (stmtAt 4)) (bodyOf (stmtAt 4)) (scopeOf (stmtAt 4)) pm₁ cd₁ doc₁) rfl (by show 2 ≤ 30; decide)
    (C_evalArgs (C_spliced_cons (wpC_of ((Ev_local (s := { s with heap := h₂, toks := tk₄ }) S₂.F.ns hups).useAt fun v₁ tk₆ e₁ => C_spliced_cons (wpC_of ((Ev_local (s := { s with heap := h₂, toks := tk₄ }) S₂.F.ns hhigh).useAt fun v₂ tk₇ e₂ => C_spliced_nil ?_))))))
  subst e₁; subst e₂
  refine ⟨⟨S₂.base ho₁, hd₁⟩, ?_⟩
  refine call_weights (s := { s with heap := h₂, toks := tk₇ }) (g := h₀) hh hroom R S₂.F.keep (S₂.base ho₁) hd₁ (hcd₁.keeps S₂.F.keep) (by omega) D.h1 D.h4 fun h₃ tk₈ dn vd nd hId hn₃ hr₃ hk₃ => ?_
  have S₃ := S₂.add hk₃ hn₃ hr₃
  refine C_spliced_nil ?_
  refine ⟨h₀, m, _, rfl, by show 2 ≤ 100; decide, S₃, fun h₄ tk₉ S₄ => assign2 (s := { s with heap := h₄, toks := tk₉ }) S₄ rfl rfl rfl fun h₅ tk₁₀ S₅ => ⟨rfl, ?_⟩⟩
  exact k h₅ tk₁₀ _ ac dn va na vd nd S₅ hIa hId (upd_same _ _ _) (by rw [upd_ne (by decide), upd_same]) fun y e1 e2 => by rw [upd_ne e1, upd_ne e2]
end
end Mine

set_option maxRecDepth 100000
namespace Mine
open PySem PySem.W PyProof.Rows PySem.Calls

abbrev yBody : List Stmt := forBodyOf lawBody[8]?
abbrev xBody : List Stmt := forBodyOf yBody[0]?
abbrev jBody : List Stmt := forBodyOf xBody[1]?
abbrev iBody : List Stmt := forBodyOf jBody[0]?

section
variable {prog : Program} {w : World} {A : Around} {env : Env} {s : Shared} {h₀ : Heap} {m : Str → Option Value} {mg mb : Str → Option Value} {L fa c : Addr} {cd : Value} {nw : List (Addr × Obj)}

theorem Ev_line {o i : Expr} {pos : Pos} {a : Addr} {ns : List Int} {k : Int} {j : Nat} (hl : LineAt s.heap a ns) (ho : Ev prog w A env s o (IsR a)) (hi : Ev prog w A env s i (IsI k)) (hk : k = (j : Int)) (hlt : j < ns.length) (hz : ns.length ≤ 1000) (hoct : Octets ns)
    (hs : ∀ u, subscripted i false (.ref a) (.int k u) = operate [.ref a, .int k u] (getItem (.ref a) (.int k u))) : Ev prog w A env s (.Subscript o i pos) (IsI (ns.getD j 0)) := by
  subst hk
  have hg : ns.getD j 0 = ns[j] := by simp [List.getD_eq_getElem?_getD, hlt]
  rcases hl with hl | ⟨vs, ne, hl, hI⟩
  · rw [hg]
    exact Ev_ba ho hi hl (by omega) (by omega) (by rw [Int.toNat_natCast]; exact List.getElem?_eq_getElem hlt) (hoct _ (List.getElem_mem hlt)) hs
  · have hv : j < vs.length := by rw [hI.length]; exact hlt
    obtain ⟨t, e⟩ := IntsAre.int_at hI j _ (List.getElem?_eq_getElem hv)
    exact Ev_item ho hi hl (by omega) (by omega) (by rw [Int.toNat_natCast]; exact List.getElem?_eq_getElem hv) ⟨t, e⟩ hs

theorem Ev_tab {e i j : Expr} {p p' : Pos} {l : Addr} {rows : List (Addr × List Int)} {N y x : Nat} {k₁ k₂ : Int} (S : Sep h₀ L s.heap m nw) (hT : TabAt nw l rows) (hS : Sized N (rows.map (·.2))) (hN : N ≤ 12) (hr : rows.length ≤ 4) (he : Ev prog w A env s e (IsR l))
    (hi : Ev prog w A env s i (IsI k₁)) (hj : Ev prog w A env s j (IsI k₂)) (h1 : k₁ = (y : Int)) (h2 : k₂ = (x : Int)) (hy : y < rows.length) (hx : x < N)
    (hs₁ : ∀ a k u, subscripted i false (.ref a) (.int k u) = operate [.ref a, .int k u] (getItem (.ref a) (.int k u))) (hs₂ : ∀ a k u, subscripted j false (.ref a) (.int k u) = operate [.ref a, .int k u] (getItem (.ref a) (.int k u))) :
    Ev prog w A env s (.Subscript (.Subscript e i p) j p') (IsI (cellF rows y x)) := by
  subst h1
  obtain ⟨⟨n, hm⟩, hrows⟩ := hT
  have hrow : (rows.map (·.2)).getD y [] = rows[y].2 := by simp [List.getD_eq_getElem?_getD, hy]
  obtain ⟨o, hmo, hcase⟩ := hrows rows[y] (List.getElem_mem hy)
  have hL : LineAt s.heap rows[y].1 rows[y].2 := by
    rcases hcase with rfl | ⟨vs, ne, rfl, hI⟩
    · exact .inl (S.get hmo)
    · exact .inr ⟨vs, ne, S.get hmo, hI⟩
  have hsz := hS rows[y].2 (List.mem_map_of_mem (List.getElem_mem hy))
  unfold cellF
  rw [hrow]
  refine Ev_line hL (Ev_item he hi (S.get hm) (by omega) (by omega) (v := .ref rows[y].1) ?_ rfl (hs₁ _ _)) hj h2 (by omega) (by omega) hsz.2 (hs₂ _ _)
  rw [Int.toNat_natCast, List.getElem?_map, List.getElem?_eq_getElem hy]; rfl

theorem Ev_weight {e i : Expr} {p : Pos} {l : Addr} {vs : List Value} {n a N j : Nat} {k : Int} (he : Ev prog w A env s e (IsR l)) (hi : Ev prog w A env s i (IsI k)) (hl : s.heap.get? l = some (lst vs n)) (hI : IntsAre vs (Ws a N)) (hk : k = (j : Int)) (hj : j < N) (hN : N ≤ 4)
    (hs : ∀ u, subscripted i false (.ref l) (.int k u) = operate [.ref l, .int k u] (getItem (.ref l) (.int k u))) : Ev prog w A env s (.Subscript e i p) (IsI ((W a j : Nat) : Int)) := by
  subst hk
  have hv : j < vs.length := by rw [hI.length, Ws_len]; exact hj
  obtain ⟨nx, tx, ex, hnx⟩ := IntsAre.at hI j _ (List.getElem?_eq_getElem hv)
  rw [Ws_get hj] at hnx
  obtain rfl : ((W a j : Nat) : Int) = nx := Option.some.inj hnx
  exact Ev_item he hi hl (by omega) (by omega) (by rw [Int.toNat_natCast]; exact List.getElem?_eq_getElem hv) ⟨tx, ex⟩ hs

structure Ready (m : Str → Option Value) (nw : List (Addr × Obj)) (u wd hi a b : Nat) (rows rows' : List (Addr × List Int)) : Prop where
  D : ∃ mn, Dims m u wd hi mn
  first : ∃ l, m "first" = some (.ref l) ∧ TabAt nw l rows
  lines : ∃ l, m "lines" = some (.ref l) ∧ TabAt nw l rows'
  across : ∃ l vs n, m "across" = some (.ref l) ∧ (l, lst vs n) ∈ nw ∧ IntsAre vs (Ws a wd)
  down : ∃ l vs n, m "down" = some (.ref l) ∧ (l, lst vs n) ∈ nw ∧ IntsAre vs (Ws b hi)
  S1 : Sized (wd * u) (rows.map (·.2))
  S2 : Sized (wd * u) (rows'.map (·.2))
  n1 : rows.length = hi
  n2 : rows'.length = hi
  a7 : a < 7
  b7 : b < 7
theorem Ready.of {m m' : Str → Option Value} {nw nw' : List (Addr × Obj)} {u wd hi a b : Nat} {rows rows' : List (Addr × List Int)} (X : Ready m nw u wd hi a b rows rows') (hs : ∀ q ∈ nw, q ∈ nw')
    (h : ∀ y ∈ (["unit", "wide", "high", "many", "first", "lines", "across", "down"] : List Str), m' y = m y) : Ready m' nw' u wd hi a b rows rows' := by
  obtain ⟨⟨mn, D⟩, ⟨l1, f1, f2⟩, ⟨l2, g1, g2⟩, ⟨l3, v3, n3, a1, a2, a3⟩, ⟨l4, v4, n4, d1, d2, d3⟩, s1, s2, n1, n2, a7, b7⟩ := X
  refine ⟨⟨mn, D.of fun y hy => h y ?_⟩, ⟨l1, by rw [h _ (by decide)]; exact f1, f2.mono hs⟩, ⟨l2, by rw [h _ (by decide)]; exact g1, g2.mono hs⟩, ⟨l3, v3, n3, by rw [h _ (by decide)]; exact a1, hs _ a2, a3⟩, ⟨l4, v4, n4, by rw [h _ (by decide)]; exact d1, hs _ d2, d3⟩, s1, s2, n1, n2, a7, b7⟩
  revert y; decide

def term (f : Nat → Nat → Int) (u a b y x j i : Nat) : Int := (W b j : Int) * (W a i : Int) * f (y - j) (x - i * u)

variable {u wd hi a b y x : Nat} {rows rows' : List (Addr × List Int)}

set_option maxHeartbeats 1000000 in
theorem i_loop {Q : Flow → Shared → Prop} {j : Nat} {base : Int} (hh : A.handled = none) (R : Root mg mb h₀) (S : Sep h₀ L s.heap m nw) (X : Ready m nw u wd hi a b rows rows')
    (hy : ∃ t, m "y" = some (.int (0 + (y : Nat)) t)) (hx : ∃ t, m "x" = some (.int (0 + (x : Nat)) t)) (hj : ∃ t, m "j" = some (.int (0 + (j : Nat)) t)) (htot : ∃ t, m "total" = some (.int base t)) (ylt : y < hi) (xlt : x < wd * u) (hjy : j ≤ y)
    (hQ : ∀ h tk m', Sep h₀ L h m' nw → (∃ t, m' "total" = some (.int (base + sumN (x / u + 1) (term (cellF rows) u a b y x j)) t)) → (∀ z : Str, z ≠ "i" → z ≠ "total" → m' z = m z) → Q .next { s with heap := h, toks := tk }) :
    wpC (model prog w) A (execs jBody (lawEnv L fa c cd)) Q s := by
  obtain ⟨mn, D⟩ := X.D
  have hu := D.u1
  have hu3 := D.u3
  have hw4 := D.w4
  have hh4 := D.h4
  have hN : wd * u ≤ 12 := Nat.mul_le_mul D.w4 D.u3
  have hxu : x / u < wd := Nat.div_lt_of_lt_mul (by rw [Nat.mul_comm]; exact xlt)
  have e : ((0 : Int) + (x : Nat)) / (u : Nat) = ((x / u : Nat) : Int) := by rw [Int.zero_add]; norm_cast
  have hqle := Nat.div_mul_le_self x u
  generalize x / u = q at hxu e hqle hQ
  refine C_one (C_for_range (lo := 0) (hi := ((q : Nat) : Int) + 1) (n := q + 1) (fun t m' nw' => nw' = nw ∧ (∃ tk, m' "total" = some (.int (base + sumN t (term (cellF rows) u a b y x j)) tk)) ∧ ∀ z : Str, z ≠ "i" → z ≠ "total" → m' z = m z) hh S
    ⟨rfl, by simpa [sumN] using htot, fun _ _ _ => rfl⟩ ?_ (by omega) (by omega) (by omega) (by omega) (by omega) rfl rfl ?_ ?_)
  · intro Q' hQ'
    have hE := Ev_div (pos := { line := 46, col := 31, endLine := 46, endCol := 40 }) (prog := prog) (w := w) (A := A) (Ev_localI (env := lawEnv L fa c cd) (s := s) (x := "x") (pos := { line := 46, col := 31, endLine := 46, endCol := 32 }) S.F.ns hx) (Ev_localI (x := "unit") (pos := { line := 46, col := 36, endLine := 46, endCol := 40 }) S.F.ns D.unit) (by omega) (by omega)
    rw [e] at hE
    exact eval_range1 (Ev_builtin (R.keeps S.F.keep) R.range.1 R.range.2) (Ev_add hE Ev_const) rfl rfl hQ'
  · rintro i t' m₁ nw₁ p h tk hlt ⟨rfl, htot₁, hm₁⟩ S₁
    have hsub : ∀ q ∈ nw₁, q ∈ p :: nw₁ := fun q hq => .tail _ hq
    have X₁ : Ready (upd m₁ "i" (.int (0 + (i : Nat)) t')) (p :: nw₁) u wd hi a b rows rows' := X.of hsub fun z hz => by
      rw [upd_ne (by rintro rfl; revert hz; decide)]
      exact hm₁ z (by rintro rfl; revert hz; decide) (by rintro rfl; revert hz; decide)
    obtain ⟨mn₁, D₁⟩ := X₁.D
    obtain ⟨l1, f1, f2⟩ := X₁.first
    obtain ⟨l3, v3, n3, a1, a2, a3⟩ := X₁.across
    obtain ⟨l4, v4, n4, d1, d2, d3⟩ := X₁.down
    have n1 := X₁.n1
    have hiu : i * u ≤ x := Nat.le_trans (Nat.mul_le_mul_right u (by omega : i ≤ q)) hqle
    have hidx : ((0 : Int) + (x : Nat)) - (0 + (i : Nat)) * (u : Nat) = ((x - i * u : Nat) : Int) := by push_cast [hiu]; rw [Int.zero_add, Int.zero_add]
    have hw1 := W_small b X.b7 j (by omega)
    have hw2 := W_small a X.a7 i (by omega)
    have hy₁ : ∃ t, upd m₁ "i" (.int (0 + (i : Nat)) t') "y" = some (.int (0 + (y : Nat)) t) := by rw [upd_ne (by decide), hm₁ _ (by decide) (by decide)]; exact hy
    have hx₁ : ∃ t, upd m₁ "i" (.int (0 + (i : Nat)) t') "x" = some (.int (0 + (x : Nat)) t) := by rw [upd_ne (by decide), hm₁ _ (by decide) (by decide)]; exact hx
    have hj₁ : ∃ t, upd m₁ "i" (.int (0 + (i : Nat)) t') "j" = some (.int (0 + (j : Nat)) t) := by rw [upd_ne (by decide), hm₁ _ (by decide) (by decide)]; exact hj
    have hi₁ : ∃ t, upd m₁ "i" (.int (0 + (i : Nat)) t') "i" = some (.int (0 + (i : Nat)) t) := ⟨t', upd_same _ _ _⟩
    have hprod : ((W b j : Nat) : Int) * ((W a i : Nat) : Int) < 2 ^ 64 := by
      have := Nat.mul_le_mul (Nat.le_of_lt hw1) (Nat.le_of_lt hw2)
      rw [← Int.natCast_mul]; omega
    have hprod0 : -(2 ^ 64) < ((W b j : Nat) : Int) * ((W a i : Nat) : Int) := by rw [← Int.natCast_mul]; omega
    refine C_one (S_augadd (a := base + sumN i (term (cellF rows) u a b y x j)) (b := term (cellF rows) u a b y x j i) S₁ (by rw [upd_ne (by decide)]; exact htot₁) ?_ rfl rfl rfl fun t₂ h₂ tk₂ S₂ => ⟨rfl, h₂, tk₂, _, _, rfl, S₂, rfl, ⟨t₂, ?_⟩, ?_⟩)
    · refine Ev_mul (a := ((W b j : Nat) : Int) * ((W a i : Nat) : Int)) (b := cellF rows (y - j) (x - i * u))
        (Ev_mul (Ev_weight (j := j) (Ev_local S₁.F.ns d1) (Ev_localI S₁.F.ns hj₁) (S₁.get d2) d3 (by omega) (by omega) (by omega) (fun _ => by with_unfolding_all rfl))
          (Ev_weight (j := i) (Ev_local S₁.F.ns a1) (Ev_localI S₁.F.ns hi₁) (S₁.get a2) a3 (by omega) (by omega) (by omega) (fun _ => by with_unfolding_all rfl)) (mulOk_left (by omega) (by omega)))
        (Ev_tab S₁ f2 X₁.S1 hN (by omega) (Ev_local S₁.F.ns f1) (Ev_sub (Ev_localI S₁.F.ns hy₁) (Ev_localI S₁.F.ns hj₁))
          (Ev_sub (Ev_localI S₁.F.ns hx₁) (Ev_mul (Ev_localI S₁.F.ns hi₁) (Ev_localI (i := (u : Int)) S₁.F.ns D₁.unit) (mulOk_left (by omega) (by omega)))) (by omega) hidx (by omega) (by omega) (fun _ _ _ => by with_unfolding_all rfl) (fun _ _ _ => by with_unfolding_all rfl))
        (mulOk_left hprod0 hprod)
    · rw [upd_same, sumN, Int.add_assoc]
    · intro z e1 e2
      rw [upd_ne e2, upd_ne e1]; exact hm₁ z e1 e2
  · rintro h tk m₁ nw₁ ⟨rfl, htot₁, hm₁⟩ S₁
    exact hQ h tk m₁ S₁ htot₁ hm₁
end
end Mine

set_option maxRecDepth 100000
namespace Mine
open PySem PySem.W PyProof.Rows PySem.Calls

theorem T_term (f : Nat → Nat → Int) (u a b y x : Nat) : T f u a b y x = sumN (y + 1) fun j => sumN (x / u + 1) (term f u a b y x j) := rfl

section
variable {prog : Program} {w : World} {A : Around} {env : Env} {s : Shared} {h₀ : Heap} {m : Str → Option Value} {mg mb : Str → Option Value} {L fa c : Addr} {cd : Value} {nw : List (Addr × Obj)}
variable {u wd hi a b y x : Nat} {rows rows' : List (Addr × List Int)}

set_option maxHeartbeats 1000000 in
theorem x_turn {Q : Flow → Shared → Prop} (hh : A.handled = none) (R : Root mg mb h₀) (S : Sep h₀ L s.heap m nw) (X : Ready m nw u wd hi a b rows rows') (hInv : Inv (cellF rows) u a b (wd * u) (rows'.map (·.2)))
    (hy : ∃ t, m "y" = some (.int (0 + (y : Nat)) t)) (hx : ∃ t, m "x" = some (.int (0 + (x : Nat)) t)) (ylt : y < hi) (xlt : x < wd * u)
    (hQ : ∀ h tk m', Sep h₀ L h m' nw → (∀ z : Str, z ≠ "i" → z ≠ "total" → z ≠ "j" → m' z = m z) → Q .next { s with heap := h, toks := tk }) :
    wpC (model prog w) A (execs xBody (lawEnv L fa c cd)) Q s := by
  obtain ⟨mn, D⟩ := X.D
  have hh4 := D.h4
  have hN : wd * u ≤ 12 := Nat.mul_le_mul D.w4 D.u3
  refine C_cons (S_assign S Ev_const rfl rfl rfl fun v h₁ tk₁ ⟨t₁, e₁⟩ S₁ => ⟨rfl, ?_⟩)
  subst e₁
  refine C_cons (C_for_range (lo := 0) (hi := (0 + (y : Nat) : Int) + 1) (n := y + 1) (fun t m' nw' => nw' = nw ∧ (∃ tk, m' "total" = some (.int (sumN t fun j => sumN (x / u + 1) (term (cellF rows) u a b y x j)) tk)) ∧ ∀ z : Str, z ≠ "i" → z ≠ "total" → z ≠ "j" → m' z = m z) hh S₁
    ⟨rfl, ⟨t₁, upd_same _ _ _⟩, fun z _ h2 _ => upd_ne h2⟩ ?_ (by omega) (by omega) (by omega) (by omega) (by omega) rfl rfl ?_ ?_)
  · intro Q' hQ'
    exact eval_range1 (Ev_builtin (R.keeps S₁.F.keep) R.range.1 R.range.2) (Ev_add (Ev_localI (i := 0 + (y : Nat)) S₁.F.ns (by rw [upd_ne (by decide)]; exact hy)) Ev_const) rfl rfl hQ'
  · rintro j t' m₁ nw₁ p h tk hlt ⟨rfl, htot₁, hm₁⟩ S₂
    have hsub : ∀ q ∈ nw₁, q ∈ p :: nw₁ := fun q hq => .tail _ hq
    have X₂ : Ready (upd m₁ "j" (.int (0 + (j : Nat)) t')) (p :: nw₁) u wd hi a b rows rows' := X.of hsub fun z hz => by
      rw [upd_ne (by rintro rfl; revert hz; decide)]
      refine hm₁ z ?_ ?_ ?_ <;> (rintro rfl; revert hz; decide)
    refine i_loop (s := { s with heap := h, toks := tk }) (x := x) (y := y) (j := j) (base := sumN j fun j => sumN (x / u + 1) (term (cellF rows) u a b y x j)) hh R S₂ X₂ (by rw [upd_ne (by decide), hm₁ _ (by decide) (by decide) (by decide)]; exact hy) (by rw [upd_ne (by decide), hm₁ _ (by decide) (by decide) (by decide)]; exact hx) ⟨t', upd_same _ _ _⟩ (by rw [upd_ne (by decide)]; exact htot₁) ylt xlt (by omega) ?_
    intro h₃ tk₃ m₃ S₃ htot₃ hm₃
    refine ⟨rfl, h₃, tk₃, m₃, _, rfl, S₃, rfl, htot₃, fun z e1 e2 e3 => ?_⟩
    rw [hm₃ z e1 e2, upd_ne e3]; exact hm₁ z e1 e2 e3
  · rintro h tk m₁ nw₁ ⟨rfl, htot₁, hm₁⟩ S₂
    refine ⟨rfl, ?_⟩
    have X₂ : Ready m₁ nw₁ u wd hi a b rows rows' := X.of (fun _ h => h) fun z hz => by
      refine hm₁ z ?_ ?_ ?_ <;> (rintro rfl; revert hz; decide)
    obtain ⟨l2, g1, g2⟩ := X₂.lines
    have n2 := X₂.n2
    have hy₁ : ∃ t, m₁ "y" = some (.int (0 + (y : Nat)) t) := by rw [hm₁ _ (by decide) (by decide) (by decide)]; exact hy
    have hx₁ : ∃ t, m₁ "x" = some (.int (0 + (x : Nat)) t) := by rw [hm₁ _ (by decide) (by decide) (by decide)]; exact hx
    rw [← T_term] at htot₁
    have hcell : cellF rows' y x = T (cellF rows) u a b y x % 256 := hInv y (by rw [List.length_map]; omega) x xlt
    refine C_one (C_If (s := { s with heap := h, toks := tk }) (c := (cellF rows' y x != T (cellF rows) u a b y x % 256)) (test_ne (s := { s with heap := h, toks := tk }) (Ev_tab (y := y) (x := x) S₂ g2 X₂.S2 hN (by omega) (Ev_local S₂.F.ns g1) (Ev_localI S₂.F.ns hy₁) (Ev_localI S₂.F.ns hx₁) (by omega) (by omega) (by omega) xlt (fun _ _ _ => by with_unfolding_all rfl) (fun _ _ _ => by with_unfolding_all rfl))
      (Ev_emod (Ev_localI S₂.F.ns htot₁) Ev_const (by decide)) rfl _ _) (fun hc tk₃ => ?_) (fun _ tk₃ => ?_))
    · rw [hcell] at hc; simp at hc
    · exact C_nil (hQ h tk₃ m₁ S₂ hm₁)

set_option maxHeartbeats 1000000 in
theorem st8 {Q : Flow → Shared → Prop} (hh : A.handled = none) (R : Root mg mb h₀) (S : Sep h₀ L s.heap m nw) (X : Ready m nw u wd hi a b rows rows') (hInv : Inv (cellF rows) u a b (wd * u) (rows'.map (·.2)))
    (hQ : ∀ h tk, (∀ b o, h₀.get? b = some o → h.get? b = some o) → Q (.ret (.bool true)) { s with heap := h, toks := tk }) :
    wpC (model prog w) A (execs (lawBody.drop 8) (lawEnv L fa c cd)) Q s := by
  obtain ⟨mn, D⟩ := X.D
  have hh4 := D.h4
  have hw4 := D.w4
  have hu3 := D.u3
  have hN : wd * u ≤ 12 := Nat.mul_le_mul D.w4 D.u3
  have hcast : ((wd : Nat) : Int) * ((u : Nat) : Int) = ((wd * u : Nat) : Int) := (Int.natCast_mul _ _).symm
  refine C_cons (C_for_range (lo := 0) (hi := ((hi : Nat) : Int)) (n := hi) (fun _ m' nw' => nw' = nw ∧ ∀ z : Str, z ≠ "i" → z ≠ "total" → z ≠ "j" → z ≠ "x" → z ≠ "y" → m' z = m z) hh S
    ⟨rfl, fun _ _ _ _ _ _ => rfl⟩ ?_ (by omega) (by omega) (by omega) (by omega) (by omega) rfl rfl ?_ ?_)
  · intro Q' hQ'
    exact eval_range1 (Ev_builtin (R.keeps S.F.keep) R.range.1 R.range.2) (Ev_localI S.F.ns D.high) rfl rfl hQ'
  · rintro y t' m₁ nw₁ p h tk hlt ⟨rfl, hm₁⟩ S₁
    have hsub : ∀ q ∈ nw₁, q ∈ p :: nw₁ := fun q hq => .tail _ hq
    have X₁ : Ready (upd m₁ "y" (.int (0 + (y : Nat)) t')) (p :: nw₁) u wd hi a b rows rows' := X.of hsub fun z hz => by
      rw [upd_ne (by rintro rfl; revert hz; decide)]
      refine hm₁ z ?_ ?_ ?_ ?_ ?_ <;> (rintro rfl; revert hz; decide)
    obtain ⟨mn₁, D₁⟩ := X₁.D
    refine C_one (C_for_range (s := { s with heap := h, toks := tk }) (lo := 0) (hi := ((wd * u : Nat) : Int)) (n := wd * u) (fun _ m' nw' => nw' = p :: nw₁ ∧ ∀ z : Str, z ≠ "i" → z ≠ "total" → z ≠ "j" → z ≠ "x" → m' z = upd m₁ "y" (.int (0 + (y : Nat)) t') z) hh S₁
      ⟨rfl, fun _ _ _ _ _ => rfl⟩ ?_ (by omega) (by omega) (by omega) (by omega) (by omega) rfl rfl ?_ ?_)
    · intro Q' hQ'
      have hE := Ev_mul (pos := { line := 43, col := 23, endLine := 43, endCol := 34 }) (prog := prog) (w := w) (A := A) (Ev_localI (env := lawEnv L fa c cd) (s := { s with heap := h, toks := tk }) (x := "wide") (pos := { line := 43, col := 23, endLine := 43, endCol := 27 }) S₁.F.ns D₁.wide) (Ev_localI (x := "unit") (pos := { line := 43, col := 30, endLine := 43, endCol := 34 }) S₁.F.ns D₁.unit) (mulOk_left (by omega) (by omega))
      rw [hcast] at hE
      exact eval_range1 (s := { s with heap := h, toks := tk }) (Ev_builtin (R.keeps S₁.F.keep) R.range.1 R.range.2) hE rfl rfl hQ'
    · rintro x t₂ m₂ nw₂ p₂ h₂ tk₂ hltx ⟨rfl, hm₂⟩ S₂
      have X₂ : Ready (upd m₂ "x" (.int (0 + (x : Nat)) t₂)) (p₂ :: p :: nw₁) u wd hi a b rows rows' := X₁.of (fun q hq => .tail _ hq) fun z hz => by
        rw [upd_ne (by rintro rfl; revert hz; decide)]
        refine hm₂ z ?_ ?_ ?_ ?_ <;> (rintro rfl; revert hz; decide)
      refine x_turn (s := { s with heap := h₂, toks := tk₂ }) (x := x) (y := y) hh R S₂ X₂ hInv ⟨t', by rw [upd_ne (by decide), hm₂ _ (by decide) (by decide) (by decide) (by decide), upd_same]⟩ ⟨t₂, upd_same _ _ _⟩ hlt hltx fun h₃ tk₃ m₃ S₃ hm₃ => ⟨rfl, h₃, tk₃, m₃, _, rfl, S₃, rfl, fun z e1 e2 e3 e4 => ?_⟩
      rw [hm₃ z e1 e2 e3, upd_ne e4]; exact hm₂ z e1 e2 e3 e4
    · rintro h₂ tk₂ m₂ nw₂ ⟨rfl, hm₂⟩ S₂
      refine ⟨rfl, h₂, tk₂, m₂, _, rfl, S₂, rfl, fun z e1 e2 e3 e4 e5 => ?_⟩
      rw [hm₂ z e1 e2 e3 e4, upd_ne e5]; exact hm₁ z e1 e2 e3 e4 e5
  · rintro h tk m₁ nw₁ ⟨rfl, hm₁⟩ S₁
    refine ⟨rfl, C_one (wpC_of (wpAny_Return_some ?_))⟩
    refine wpAny_Constant_bool ?_
    exact hQ h tk S₁.F.keep
end
end Mine

set_option maxRecDepth 100000
namespace Mine
open PySem PySem.W PyProof.Rows PySem.Calls

theorem cells_law (n : Nat) : cellsFrom n lawSc.names [] = [(("cells" : Str), n)] := rfl

section
variable {prog : Program} {w : World} {A : Around} {s : Shared} {h₀ : Heap} {m : Str → Option Value} {mg mb : Str → Option Value} {L fa c : Addr} {cd : Value}

theorem law_body {Q : Flow → Shared → Prop} {oc : Obj} {l : Addr} {svs : List Value} {sns : List Int} (hh : A.handled = none) (hroom : A.depth < recursionLimit) (R : Root mg mb h₀)
    (fS : FnAt' mg h₀ "undo_filter_sub" 1) (fU : FnAt' mg h₀ "undo_filter_up" 2) (fW : FnAt' mg h₀ "_law_weights" 4)
    (S : Sep h₀ L s.heap m [(c, oc)]) (hoc : oc.data = .cell none) (hm : m "script" = some (.ref l)) (hl : h₀.IsList l svs.toArray) (hi : IntsAre svs sns) (hlen : sns.length ≤ 63)
    (hQ : ∀ h tk, (∀ b o, h₀.get? b = some o → h.get? b = some o) → Q (.ret (.bool true)) { s with heap := h, toks := tk }) :
    wpC (model prog w) A (execs lawBody (lawEnv L fa c cd)) Q s := by
  refine st0 R S hoc hm hl hi hlen fun h₁ tk₁ cl cvs n cs oc' S₁ hd hI h2 hcs => ?_
  refine st1 (s := { s with heap := h₁, toks := tk₁ }) hh S₁ hd hI h2 hcs fun h₂ tk₂ m₂ f0 u wd hi mn S₂ D hf => ?_
  refine st4 (s := { s with heap := h₂, toks := tk₂ }) hh R S₂ hd hI hcs D hf fun h₃ tk₃ m₃ nw rows S₃ mcl mc hT hSz hrl D₃ hf₃ => ?_
  refine st6 (s := { s with heap := h₃, toks := tk₃ }) hh hroom R fS fU S₃ mcl mc hd hI h2 hcs D₃ hT hSz hrl hf₃ fun h₄ tk₄ m₄ nw₄ ln rows' a b S₄ hsub hT₄ hSz₄ hrl₄ hln hups hab hInv D₄ hf₄ => ?_
  refine st7 (s := { s with heap := h₄, toks := tk₄ }) hh hroom R fW S₄ D₄ hups hab fun h₅ tk₅ m₅ ac dn va na vd nd S₅ hIa hId hac hdn hm₅ => ?_
  have hsub₅ : ∀ q ∈ nw₄, q ∈ (dn, lst vd nd) :: (ac, lst va na) :: nw₄ := fun q hq => .tail _ (.tail _ hq)
  have hm6 := D₄.m6
  refine st8 (s := { s with heap := h₅, toks := tk₅ }) (rows := rows) (rows' := rows') (a := a) (b := b) hh R S₅ ⟨⟨mn, D₄.of fun y hy => hm₅ y (by rintro rfl; revert hy; decide) (by rintro rfl; revert hy; decide)⟩, ⟨f0, by rw [hm₅ _ (by decide) (by decide)]; exact hf₄, (hT.mono hsub).mono hsub₅⟩,
    ⟨ln, by rw [hm₅ _ (by decide) (by decide)]; exact hln, hT₄.mono hsub₅⟩, ⟨ac, va, na, hac, .tail _ (.head _), hIa⟩, ⟨dn, vd, nd, hdn, .head _, hId⟩, hSz, hSz₄, hrl, hrl₄, by omega, by omega⟩ hInv fun h tk hk => hQ h tk hk

theorem codeC_call_law {R : Flow → Shared → Prop} {pm doc : Value} {o : Obj} {l : Addr} {svs : List Value} {sns : List Int} (hroom : A.depth < recursionLimit) (hroom' : ∀ env, (A.deeper env).depth < recursionLimit) (hh : ∀ env, (A.deeper env).handled = none) (Rt : Root mg mb s.heap)
    (fS : FnAt' mg s.heap "undo_filter_sub" 1) (fU : FnAt' mg s.heap "undo_filter_up" 2) (fW : FnAt' mg s.heap "_law_weights" 4)
    (ho : s.heap.get? fa = some o) (hdata : o.data = .func (docDef "law" (paramsOf (stmtAt 5)) lawBody lawSc pm cd doc)) (hcd : s.heap.CodeRec cd "law") (hl : s.heap.IsList l svs.toArray) (hi : IntsAre svs sns) (hlen : sns.length ≤ 63)
    (hQ : ∀ h tk, (∀ b o, s.heap.get? b = some o → h.get? b = some o) → R (.ret (.bool true)) { s with heap := h, toks := tk }) :
    codeC (model prog w) A (.call (.ref fa) ⟨[.ref l], []⟩) R s := by
  refine codeC_of_tree rfl ?_
  show wpC _ A.in1 (callAny (.ref fa) ⟨[.ref l], []⟩) _ s
  simp only [callAny]
  refine wpC_bind (wpC_of (wpAny_load ho ?_))
  obtain ⟨c, oc, vs, tq, rfl, hoc, hdc, hq⟩ := id hcd
  have hco : lawSc.isCoroutine = false := rfl
  have hgen : lawSc.isGenerator = false := rfl
  have hbind : bindArgs (docDef "law" (paramsOf (stmtAt 5)) lawBody lawSc pm (.ref c) doc) ⟨[.ref l], []⟩ = pure [(("script" : Str), Value.ref l)] := rfl
  simp only [hdata, docDef, callFunction, hco, hgen]
  refine wpC_bind (m := field (.ref c) 1) (wpC_of (wpAny_field hoc hdc hq (wpC_bind (wpC_pure ?_))))
  refine wpC_bind (wpC_of_eq hbind ?_)
  refine wpC_bind (wpC_of (wpAny_newFunctionEnv_cells rfl (fun x hx => by rw [List.mem_singleton.mp hx]; exact .inl rfl) fun env he s' x => ?_))
  subst he
  rw [cells_law] at x ⊢
  obtain ⟨⟨⟨h₁, tk₁, rfl⟩, hns, hkeep, habove⟩, hcells, _, hab⟩ := x
  refine wpC_bind (wpC_of (wpAny_enterFrame (Rt.nl.keeps hkeep) hroom ?_))
  refine wpC_pure ⟨rfl, codeC_func ?_⟩
  obtain ⟨oc', ho', hd'⟩ := hcells "cells" (s.heap.objs.size + 1) rfl
  have hnone : ∀ k : Nat, s.heap.get? (s.heap.objs.size + k) = none := fun k => by
    cases e : s.heap.get? (s.heap.objs.size + k) with
    | none => rfl
    | some o => exact absurd (Heap.lt_size e) (Nat.not_lt.mpr (Nat.le_add_right _ _))
  refine law_body (s := { s with heap := h₁, toks := _ }) (h₀ := s.heap) (oc := oc') (hh _) (hroom' _) Rt fS fU fW ⟨⟨hns, hkeep, Nat.le_refl _⟩, fun p hp => ?_, by simp⟩ hd' rfl hl hi hlen fun h tk hk => hQ h tk hk
  rw [List.mem_singleton.mp hp]
  exact ⟨ho', Nat.ne_of_gt (Nat.lt_succ_self _), hnone 1⟩
end
end Mine

set_option maxRecDepth 100000
namespace Mine
open PySem PySem.W PyProof.Rows PySem.Calls

/-! ## The head: a law whose walk stands in the logic of the clean stack -/

abbrev Grew (h h' : Heap) : Prop := ∀ b o, h.get? b = some o → h'.get? b = some o
abbrev theRow : OpenRow := PySem.Challenge.rw_bq0015_01.row

/-- the law, called: it gives True, and whatever stood still stands -/
def GivesTrue (w : World) (s : Shared) (f : Value) (vals : List Value) : Prop :=
  codeC (model theRow.prog w) callerA (.call f ⟨vals, []⟩) (fun r s' => r = .ret (.bool true) ∧ ∃ h tk, s' = { s with heap := h, toks := tk } ∧ Grew s.heap h) s

/-- what the walk is asked for -/
def LawWalk (q : Program) (loose : List Str) (XP : (Str → Option Value) → Heap → Prop) : Prop :=
  ∀ {w : World} {s₀ s₁ : Shared} {mg mb : Str → Option Value} {args : List WData} {vals : List Value} {as : List Addr}, Ground q loose [] XP w s₀ mg mb s₁.heap → theRow.claim.pre args = true → WData.layableAll args = true →
    ReadsAllW [] (classAt s₀.heap) s₁.heap vals args as → WellAll w.params s₁.heap vals args → (∀ a ∈ as, (a == sysModules) = false) → ∃ f, mg "law" = some f ∧ GivesTrue w s₁ f vals

/-- the caller's thread comes to its end, and the end is True -/
theorem caller_ends {w : World} {s : Shared} {f : Value} {vals : List Value} {mg : Str → Option Value} (hz : s.asleep) (hg : s.gens = #[]) (hn : s.heap.Ns mainGlobals mg) (hf : mg "law" = some f) (h : GivesTrue w s f vals) :
    ∃ n h' tk, schedN (denote table) theRow.prog w n (.single s (callStub "law" vals)) = .halted (.done (.ret (.bool true))) { s with heap := h', toks := tk } ∧ Grew s.heap h' ∧ h'.life = s.heap.life := by
  have tree : wpC (model theRow.prog w) callerA (do match ← nsGet mainNs "law" with
      | some f => do ret (← PySem.call f vals)
      | none => unsupported "claim.caller:no-such-global") (fun fin s' => fin = .done (.ret (.bool true)) ∧ ∃ h' tk, s' = { s with heap := h', toks := tk } ∧ Grew s.heap h') s := by
    refine wpC_bind (wpC_of (wpAny_nsGet hn ?_))
    rw [hf]
    refine wpC_bind (wpC_mono (Q := fun v s' => v = .bool true ∧ ∃ h' tk, s' = { s with heap := h', toks := tk } ∧ Grew s.heap h') (wpC_call (codeC_mono h fun r s' x => ⟨_, x.1, rfl, x.2⟩)) fun v s' x => wpC_pure ⟨?_, x.2⟩)
    rw [x.1]
  obtain ⟨n, r, s', s'', run₁, run₂, same, hr, h', tk, rfl, hk⟩ := wp_halts_full (M := model theRow.prog w) (p := default) (R := fun r s' => r = .ok (.ret (.bool true)) ∧ ∃ h' tk, s' = { s with heap := h', toks := tk } ∧ Grew s.heap h') hz
    (Sem.wp_mono _ _ _ (fun fin _ s' x => by
      obtain ⟨rfl, h', tk, rfl, hk⟩ := x
      refine ⟨⟨rfl, h', tk, rfl, hk⟩, ?_⟩
      show leftWithCleanup s.gens = false
      exact leftWithCleanup_false_of_bare (AllBare.of_eq hg)) (fun _ _ _ x => x.elim) _ _ (tree _ default caller_in caller_ok fun x hx => nomatch hx))
  subst hr
  rw [Shared.eq_of_forget_eq same hg] at run₁ run₂
  exact ⟨n, h', tk, run₁, hk, runN_life _ _ _ run₂⟩
end Mine

section
open PySem PySem.W PyProof.Rows PySem.Calls Mine
namespace Mine.Hd.PySem.W
/-- stands where «k_head» looks for a head; the walk that it leaves is the last premise -/
theorem holds_open {q : Program} {loose : List Str} {Xt : Shared → Bool} {XP : (Str → Option Value) → Heap → Prop} {α : Type} {Yf : Shared → α} {Ya : World → α} {YP : World → Heap → Prop} {d : DefRec} {kwd : List (Str × Expr)} {N : Nat}
    (left : LeftO theRow.prog q loose Xt Yf Ya N) (_ : ∀ w s, Yf s = Ya w → YP w s.heap) (_ : ∀ w h h', YP w h → Grew h h' → YP w h') (seen : ∀ s, Xt s = true → XP (s.heap.nsMap mainGlobals) s.heap) (stays : ∀ mg h h', XP mg h → Grew h h' → XP mg h')
    (stands : defOf q theRow.name = some (d, kwd)) (written : theRow.prog.theDef theRow.name = some (d.params, d.body, d.scope)) (kws : kwWritten? d.params.kwonlyargs d.params.kw_defaults = some kwd) (_ : ∀ s, Xt s = true → RecFacts [] s.heap) (_ : (!theRow.writes || theRow.records.isEmpty) = true)
    (said : theRow.wellSaid = true) (looks : (chainsOk q && opensWell theRow.prog) = true) (bare : theRow.prog.bare) (some_args : theRow.toRowW.promised) (walk : LawWalk q loose XP) : theRow.Holds := by
  have looks := Bool.and_eq_true_iff.mp looks
  refine ⟨said, some_args, ⟨bare, looks.2, rfl⟩, some_args.witness, fun w => ⟨(left.behind seen looks.1 w).1, fun s hs => ?_⟩⟩
  obtain ⟨s₀, fenced, none₀, s₁, top, asleep, none₁, isNs, G, _⟩ := (left.behind seen looks.1 w).2 s hs
  have none₁ : s₁.gens = #[] := Array.size_eq_zero_iff.mp (by simpa using none₁)
  refine ⟨s₀, fenced, none₀, s₁, top, fun n hn => ?_, fun x hx => (nomatch hx), fun x hx => (nomatch hx), fun args hpre hlay ord hord => ?_⟩
  · rw [List.mem_singleton.mp hn]
    exact pinned_of_view isNs G stands written kws
  obtain ⟨⟨vals, s₂⟩, laid⟩ := Option.isSome_iff_exists.mp (layAllW_isSome (P := w.params) (ord := ord) G.has args theRow.args s₁ (pre_splitW hpre).1)
  have grew := layAllW_keeps _ _ _ laid
  have alike := layAllW_rest _ _ _ laid
  obtain ⟨as, reads, place, _⟩ := reads_layAllW hord _ _ _ laid hlay s₂.heap fun _ _ e => e
  have G₂ := G.keeps stays grew
  have none₂ : s₂.gens = #[] := alike.1.trans none₁
  obtain ⟨f, hf, gives⟩ := walk G₂ hpre hlay reads (well_layAllW hord args s₁ _ laid _ fun _ _ e => e) fun a ha => beq_eq_false_iff_ne.mpr fun e => by
    have := (place.2.2 a ha).1
    rw [e] at this
    exact Nat.not_lt.mpr this G.low
  obtain ⟨n, h', tk, run, hk, life⟩ := caller_ends (Shared.asleep_of_life alike.2.2.2 asleep) none₂ G₂.T.g hf gives
  refine ⟨vals, s₂, laid, n, _, _, run, .inl ⟨_, rfl, fun _ => rfl, ⟨.bool true, args, [], as, .bool true, ReadsAllW.keeps hk reads, ?_, fun _ => ⟨List.nodup_nil, fun _ h => (nomatch h), fun _ h => (nomatch h)⟩, fun _ _ => ident_freeW (r := theRow.toRowW) rfl rfl rfl _ _⟩,
    fun i e => (nomatch e), fun b o e _ _ _ => .inl (hk b o e), fun i hi => (nomatch hi)⟩, fun _ i x e => ?_, fun e => (nomatch e), congrArg Life.seen (life.trans alike.2.2.2), ?_⟩
  · exact postW_of (by wrow_shape) (by wtm_val) (by w_fin)
  · rw [none₁] at e; simp at e
  · exact Shared.rest_eq (alike.2.2.1)
end Mine.Hd.PySem.W
end

namespace Mine
open PySem PySem.W PyProof.Rows PySem.Calls

theorem fnAt_of {q : Program} {loose : List Str} {R : WRecords} {XP : (Str → Option Value) → Heap → Prop} {w : World} {s₀ : Shared} {mg mb : Str → Option Value} {h : Heap} (G : Ground q loose R XP w s₀ mg mb h) {name : Str} {k : Nat} {pos : Pos}
    (e : defOf q name = some (⟨name, paramsOf (stmtAt k), bodyOf (stmtAt k), scopeOf (stmtAt k), pos⟩, [])) (hd : (paramsOf (stmtAt k)).defaults = []) : FnAt' mg h name k := by
  obtain ⟨a, o, pm, cd, doc, dV, kV, h1, h2, h3, h4, h5⟩ := G.fn e
  have e1 := Dflts.none h5 hd
  have e2 := Dflts.noKw h5
  subst e1; subst e2
  exact ⟨a, o, pm, cd, doc, h1, h2, h3, h4⟩

theorem root_of {q : Program} {loose : List Str} {R : WRecords} {XP : (Str → Option Value) → Heap → Prop} {w : World} {s₀ : Shared} {mg mb : Str → Option Value} {h : Heap} (G : Ground q loose R XP w s₀ mg mb h)
    (free : ∀ x ∈ (["len", "range", "bytearray"] : List Str), x ∉ startupNames ∧ x ∉ looseW q loose ∧ x ∉ (recsOf q).map (·.name) ∧ x ∉ (litsOf q).map (·.1) ∧ x ∉ (clssOf q (looseW q loose)).map (·.name)) : Root mg mb h := by
  have none : ∀ x ∈ (["len", "range", "bytearray"] : List Str), mg x = none := fun x hx => let ⟨a, b, c, d, e⟩ := free x hx; G.T.free x a b c d e
  exact ⟨G.T.g, G.T.b, G.T.nolimit, ⟨none _ (by decide), (G.T.builtins _ (by decide)).trans (by decide)⟩, ⟨none _ (by decide), (G.T.builtins _ (by decide)).trans (by decide)⟩, ⟨none _ (by decide), (G.T.builtins _ (by decide)).trans (by decide)⟩⟩

theorem law_ends {prog : Program} {q : Program} {loose : List Str} {R : WRecords} {XP : (Str → Option Value) → Heap → Prop} {w : World} {s₀ s₁ : Shared} {mg mb : Str → Option Value} (G : Ground q loose R XP w s₀ mg mb s₁.heap) (Rt : Root mg mb s₁.heap)
    (fS : FnAt' mg s₁.heap "undo_filter_sub" 1) (fU : FnAt' mg s₁.heap "undo_filter_up" 2) (fW : FnAt' mg s₁.heap "_law_weights" 4) {fa l : Addr} {o : Obj} {pm cd doc dV kV : Value} {svs : List Value} {sns : List Int}
    (ho : s₁.heap.get? fa = some o) (hd : o.data = .func { docDef "law" (paramsOf (stmtAt 5)) lawBody lawSc pm cd doc with defaults := dV, kwdefaults := kV }) (hcd : s₁.heap.CodeRec cd "law") (hD : Dflts mg s₁.heap (paramsOf (stmtAt 5)) [] dV kV)
    (hl : s₁.heap.IsList l svs.toArray) (hi : IntsAre svs sns) (hlen : ¬ ((63 : Nat) : Int) < (sns.length : Int)) {Q : Flow → Shared → Prop}
    (hQ : ∀ h tk, (∀ b o, s₁.heap.get? b = some o → h.get? b = some o) → Q (.ret (.bool true)) { s₁ with heap := h, toks := tk }) :
    codeC (model prog w) callerA (.call (.ref fa) ⟨[.ref l], []⟩) Q s₁ := by
  have e1 := Dflts.none hD rfl
  have e2 := Dflts.noKw hD
  subst e1; subst e2
  exact codeC_call_law (by decide +kernel) (fun _ => by show callerA.depth + 1 < recursionLimit; decide +kernel) (fun _ => rfl) Rt fS fU fW ho hd hcd hl hi (by omega) hQ
end Mine

section
open PySem PySem.W PyProof.Rows
namespace Mine.Hd
set_option maxRecDepth 100000 in
set_option maxHeartbeats 8000000 in
theorem aux : PySem.Challenge.rw_bq0015_01.Holds := by
  w_on; o_law; k_head; (case hw => w_witness2)
  intro w s₀ s₁ mg mb args vals as G hpre hlay hrd hwl hlo
  obtain ⟨fa, o, pm, cd, doc, dV, kV, hmg, ho, hd, hcd, hD⟩ := G.fn (name := "law") rfl
  have Rt := root_of G (by decide +kernel)
  have fS := fnAt_of (name := "undo_filter_sub") (k := 1) G rfl rfl
  have fU := fnAt_of (name := "undo_filter_up") (k := 2) G rfl rfl
  have fW := fnAt_of (name := "_law_weights") (k := 4) G rfl rfl
  refine ⟨.ref fa, hmg, ?_⟩
  wrow_args hpre hlay hrd hwl hlo
  exact law_ends G Rt fS fU fW ho hd hcd hD (by assumption) (by assumption) (by assumption) fun h tk hk => ⟨rfl, h, tk, rfl, hk⟩
end Mine.Hd
end

theorem PySem.Challenge.cw_bq0015_01_holds : PySem.Challenge.rw_bq0015_01.Holds := by
  exact Mine.Hd.aux
